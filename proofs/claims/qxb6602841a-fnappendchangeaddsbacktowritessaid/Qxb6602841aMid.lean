import Derived.Test.Qxb6602841aAppend
namespace Go.Proofs.Qxb6602841a
open Go.RowKit Go.Maps Go.WideMaps

theorem Pairs.small {w : World} {x : Option Addr} {n : Nat} {S : Nat → ByteArray} {V : Nat → Int} (h : Pairs w x n S V) : ∀ i, i < n → (S i).size ≤ maxLen := fun i hi => by
  obtain ⟨b, off, _, hc⟩ := h.2 (by omega)
  exact (hc i hi).2.2

def CopyPost (w : World) (x : Option Addr) (n : Nat) (S : Nat → ByteArray) (V : Nat → Int) (e : Ending) (w' : World) : Prop :=
  ∃ x', e = .returned (.slice x' n n) ∧ x'.isNone = x.isNone ∧ Pairs w' x' n S V ∧ Below w.heap.size w w'

def ToPost (w : World) (x : Option Addr) (n : Nat) (S : Nat → ByteArray) (V : Nat → Int) (e : Ending) (w' : World) : Prop :=
  ∃ x', e = .returned (.slice x' n n) ∧ x'.isNone = x.isNone ∧ Pairs w' x' n S V ∧ w'.ownsRow w.heap.size 45 2 (.slice x' n n) n (flat S V n) ∧ Below w.heap.size w w'

theorem copy_all (x : Option Addr) (n cap : Nat) (S : Nat → ByteArray) (V : Nat → Int) (w : World) (h : Pairs w x n S V) (hx : x = none → n = 0 ∧ cap = 0) (hn : n ≤ 1048576) :
    Calls Try.prog 19 #[.slice x n cap] w (CopyPost w x n S V) := by
  cases x with
  | none =>
    obtain ⟨rfl, rfl⟩ := hx rfl
    refine (copy_nil w).mono ?_
    rintro e w' ⟨rfl, rfl⟩
    exact ⟨none, rfl, rfl, h, Below.refl _ _⟩
  | some a =>
    refine (copy_any a n cap S V w h hn).mono ?_
    rintro e w' ⟨rfl, hf, hb⟩
    exact ⟨_, rfl, rfl, hf.pairs h.1 h.small, hb⟩

theorem length_flat (S : Nat → ByteArray) (V : Nat → Int) : ∀ n, (flat S V n).length = n * 2
  | 0 => rfl
  | n + 1 => by simp [flat, length_flat S V n]; omega

theorem flat_get (S : Nat → ByteArray) (V : Nat → Int) : ∀ n i, i < n → (flat S V n)[i * 2]? = some (.string (S i)) ∧ (flat S V n)[i * 2 + 1]? = some (.int .i64 (V i))
  | n + 1, i, hi => by
    have hl := length_flat S V n
    by_cases e : i = n
    · subst e
      constructor
      · rw [flat, List.getElem?_append_right (by omega), hl]; simp
      · rw [flat, List.getElem?_append_right (by omega), hl]; simp
    · obtain ⟨h1, h2⟩ := flat_get S V n i (by omega)
      exact ⟨by rw [flat, List.getElem?_append_left (by omega)]; exact h1, by rw [flat, List.getElem?_append_left (by omega)]; exact h2⟩

theorem Filled.owns {w : World} {B base : Nat} {n : Nat} {S : Nat → ByteArray} {V : Nat → Int} (h : Filled w B 45 n n S V) (hB : base ≤ B) (hn : n ≤ maxLen) : w.ownsRow base 45 2 (.slice (some ⟨B, 0, none⟩) n n) n (flat S V n) := by
  obtain ⟨cur, hb, hs, hc⟩ := h
  refine ⟨length_flat S V n, .inr ⟨B, n, cur, rfl, hB, hb, Nat.le_refl _, hn, hs, ?_⟩⟩
  apply List.ext_getElem?
  intro j
  by_cases hj : j < n * 2
  · have hh := flat_get S V n (j / 2) (by omega)
    have hg := hc (j / 2) (by omega)
    rw [List.getElem?_take, if_pos hj, Array.getElem?_toList]
    by_cases hm : j % 2 = 0
    · rw [show j / 2 * 2 = j by omega] at hh hg
      rw [hh.1, hg.1]
    · rw [show j / 2 * 2 + 1 = j by omega] at hh hg
      rw [hh.2, hg.2]
  · rw [List.getElem?_eq_none (by simp; omega), List.getElem?_eq_none (by rw [length_flat]; omega)]

theorem toIV_all (x : Option Addr) (n cap : Nat) (S : Nat → ByteArray) (V : Nat → Int) (w : World) (h : Pairs w x n S V) (hx : x = none → n = 0 ∧ cap = 0) (hn : n ≤ 1048576) :
    Calls Try.prog 20 #[.slice x n cap] w (ToPost w x n S V) := by
  cases x with
  | none =>
    obtain ⟨rfl, rfl⟩ := hx rfl
    refine (toIV_nil w).mono ?_
    rintro e w' ⟨rfl, rfl⟩
    exact ⟨none, rfl, rfl, h, World.ownsRow_nil _ _ _ _, Below.refl _ _⟩
  | some a =>
    refine (toIV_any a n cap S V w h hn).mono ?_
    rintro e w' ⟨rfl, hf, hb⟩
    exact ⟨_, rfl, rfl, hf.pairs h.1 h.small, hf.owns (Nat.le_refl _) h.1, hb⟩

def cat {α : Type} (n : Nat) (f g : Nat → α) (i : Nat) : α := if i < n then f i else g (i - n)

def GotPost (wb : World) (nr nw : Nat) (Sr Sw : Nat → ByteArray) (Vr Vw : Nat → Int) (x0 : Option Addr) (n0 : Nat) (S0 : Nat → ByteArray) (V0 : Nat → Int) (e : Ending) (w' : World) : Prop :=
  ∃ xg capg k blind, e = .returned (.tuple #[.slice xg (n0 + k) capg, .bool blind]) ∧ Scan Sr Vr nr Sw nw k blind ∧
    Pairs w' xg (n0 + k) (cat n0 S0 Sw) (cat n0 V0 (diff Sr Vr nr Sw Vw)) ∧ xg.isNone = (x0.isNone && k == 0) ∧ Below wb.heap.size wb w'

theorem got_of {wb w' : World} {nr nw : Nat} {Sr Sw : Nat → ByteArray} {Vr Vw : Nat → Int} {x0 : Option Addr} {n0 : Nat} {S0 : Nat → ByteArray} {V0 : Nat → Int} {e : Ending}
    (hs0 : ∀ i, i < n0 → (S0 i).size ≤ maxLen) (hsw : ∀ i, i < nw → (Sw i).size ≤ maxLen) (hx : x0 = none → n0 = 0)
    (h : AppPost wb.heap.size wb nr nw Sr Sw Vr Vw (.slice x0 n0 n0) n0 (flat S0 V0 n0) e w') : GotPost wb nr nw Sr Sw Vr Vw x0 n0 S0 V0 e w' := by
  obtain ⟨v', k, blind, rfl, hscan, hown, hnil, hb⟩ := h
  rcases hown.2 with ⟨rfl, hz⟩ | ⟨g, cap, cur, rfl, hg, hcell, hle, hmax, hsz, htake⟩
  · obtain ⟨hxx, hk⟩ := hnil.1 rfl
    have hn0 : n0 = 0 := by omega
    subst hn0; subst hk
    simp at hxx
    subst hxx
    exact ⟨none, 0, 0, blind, rfl, hscan, ⟨by unfold maxLen; omega, fun h => by omega⟩, rfl, hb⟩
  · refine ⟨_, cap, k, blind, rfl, hscan, ⟨by omega, fun _ => ⟨g, 0, rfl, fun i hi => ?_⟩⟩, ?_, hb⟩
    · have hcs := hown.cells (g := g) rfl
      have key : (flat S0 V0 n0 ++ flat Sw (diff Sr Vr nr Sw Vw) k)[i * 2]? = some (.string (cat n0 S0 Sw i)) ∧ (flat S0 V0 n0 ++ flat Sw (diff Sr Vr nr Sw Vw) k)[i * 2 + 1]? = some (.int .i64 (cat n0 V0 (diff Sr Vr nr Sw Vw) i)) := by
        by_cases hlt : i < n0
        · simp only [cat, if_pos hlt]
          rw [List.getElem?_append_left (by rw [length_flat]; omega), List.getElem?_append_left (by rw [length_flat]; omega)]
          exact flat_get _ _ _ _ hlt
        · simp only [cat, if_neg hlt]
          rw [List.getElem?_append_right (by rw [length_flat]; omega), List.getElem?_append_right (by rw [length_flat]; omega), length_flat, show i * 2 - n0 * 2 = (i - n0) * 2 by omega, show i * 2 + 1 - n0 * 2 = (i - n0) * 2 + 1 by omega]
          exact flat_get _ _ _ _ (by omega)
      have h1 := hcs _ _ key.1
      have h2 := hcs _ _ key.2
      rw [Go.WideShapes.add_plain] at h1 h2
      refine ⟨h1, by simpa [Nat.add_assoc] using h2, ?_⟩
      unfold cat
      split
      · exact hs0 i (by assumption)
      · exact hsw _ (by have := hscan.1; omega)
    · cases x0 with
      | some a => rfl
      | none =>
        have : k ≠ 0 := fun e => by
          have := hnil.2 ⟨by rw [hx rfl], e⟩
          cases this
        simp [this]

set_option maxHeartbeats 400000 in
theorem zzAppend_any (wb w : World) (rb : Nat) (xr xw : Option Addr) (nr nw capr capw : Nat) (Sr Sw : Nat → ByteArray) (Vr Vw : Nat → Int) (x0 : Option Addr) (n0 : Nat) (S0 : Nat → ByteArray) (V0 : Nat → Int)
    (hb : Below wb.heap.size wb w) (hr : Pairs wb xr nr Sr Vr) (hw : Pairs wb xw nw Sw Vw) (wfr : ∀ i, i < nr → (Lit.int .i64 (Vr i)).wf = true)
    (hc3 : wb.cell? ⟨rb, 3, none⟩ = some (.slice xr nr capr)) (hc4 : wb.cell? ⟨rb, 4, none⟩ = some (.slice xw nw capw))
    (hown : w.ownsRow wb.heap.size 45 2 (.slice x0 n0 n0) n0 (flat S0 V0 n0)) (hs0 : ∀ i, i < n0 → (S0 i).size ≤ maxLen) (hx : x0 = none → n0 = 0) (hn0 : n0 ≤ 1048576) (hnw : nw ≤ 4096) (hnr : nr ≤ 4096) :
    Calls Try.prog 21 #[.slice x0 n0 n0, .pointer (some ⟨rb, 0, none⟩)] w (GotPost wb nr nw Sr Sw Vr Vw x0 n0 S0 V0) := by
  have hsw := hw.small
  go_enter Try.func21, Try.ntmps21
  go_wp2_with fail
  refine (append_any wb w rb xr xw nr nw capr capw Sr Sw Vr Vw _ n0 _ hb hr hw wfr hc3 hc4 hown hn0 hnw hnr).mono ?_
  intro e w' hp
  obtain ⟨xg, capg, k, blind, rfl, h1, h2, h3, h4⟩ := got_of hs0 hsw hx hp
  go_wp2
  go_ret2
  exact ⟨xg, capg, k, blind, rfl, h1, h2, h3, h4⟩
end Go.Proofs.Qxb6602841a
