import Derived.Test.Qxb6603473aDoorDecW
import Derived.Test.Qxb6603473aDoorPg2
namespace Go.Proofs.Qxb6603473aDoor
open Go.RowKit

/-- The strings that are kept among S's first k. -/
def ks (t : ByteArray) (S : Nat → ByteArray) : Nat → List ByteArray
  | 0 => []
  | k + 1 => if keeps t (S k) = true then ks t S k ++ [S k] else ks t S k
theorem ks_yes {t : ByteArray} {S : Nat → ByteArray} {k : Nat} (h : keeps t (S k) = true) : ks t S (k + 1) = ks t S k ++ [S k] := by unfold ks; rw [if_pos h]; cases k <;> rfl
theorem ks_no {t : ByteArray} {S : Nat → ByteArray} {k : Nat} (h : keeps t (S k) = false) : ks t S (k + 1) = ks t S k := by unfold ks; rw [if_neg (by rw [h]; decide)]; cases k <;> rfl
theorem ks_le (t : ByteArray) (S : Nat → ByteArray) : ∀ k, (ks t S k).length ≤ k
  | 0 => Nat.le_refl _
  | k + 1 => by
    have := ks_le t S k
    cases h : keeps t (S k)
    · rw [ks_no h]; omega
    · rw [ks_yes h]; simp; omega
theorem ks_pre (t : ByteArray) (S : Nat → ByteArray) (k : Nat) : ∀ d, ∃ r, ks t S (k + d) = ks t S k ++ r
  | 0 => ⟨[], by simp⟩
  | d + 1 => by
    obtain ⟨r, h⟩ := ks_pre t S k d
    rw [← Nat.add_assoc]
    cases hk : keeps t (S (k + d))
    · exact ⟨r, by rw [ks_no hk, h]⟩
    · exact ⟨r ++ [S (k + d)], by rw [ks_yes hk, h]; simp⟩

def nth (L : List ByteArray) (j : Nat) : ByteArray := L.getD j ByteArray.empty

theorem ks_at {t : ByteArray} {S : Nat → ByteArray} {k n : Nat} (hk : k < n) (h : keeps t (S k) = true) : (ks t S k).length < (ks t S n).length ∧ nth (ks t S n) (ks t S k).length = S k := by
  obtain ⟨r, hr⟩ := ks_pre t S (k + 1) (n - (k + 1))
  rw [show k + 1 + (n - (k + 1)) = n by omega, ks_yes h] at hr
  rw [hr]
  refine ⟨by simp, ?_⟩
  simp [nth, List.getD]

theorem body_eb (t : ByteArray) (S : Nat → ByteArray) : ∀ k, body t S k = eb (nth (ks t S k)) (ks t S k).length
  | 0 => rfl
  | k + 1 => by
    have ih := body_eb t S k
    have e : body t S (k + 1) = if keeps t (S k) = true then body t S k ++ comma (body t S k) ++ elem (S k) else body t S k := rfl
    rw [e]
    cases h : keeps t (S k)
    · rw [ks_no h]
      exact ih
    · rw [ks_yes h, if_pos rfl, List.length_append]
      show _ = eb (nth (ks t S k ++ [S k])) ((ks t S k).length + 1)
      have e1 : nth (ks t S k ++ [S k]) (ks t S k).length = S k := by simp [nth, List.getD]
      have e2 : eb (nth (ks t S k ++ [S k])) (ks t S k).length = eb (nth (ks t S k)) (ks t S k).length := eb_congr _ fun i hi => by
        simp only [nth, List.getD]
        rw [List.getElem?_append_left hi]
      rw [eb_succ, e1, e2, ih]

theorem isLit (t : ByteArray) (S : Nat → ByteArray) (n : Nat) : IsLit ⟨(lit t S n).toArray⟩ (nth (ks t S n)) (ks t S n).length := by
  unfold IsLit
  show (lit t S n).toArray.toList = _
  rw [List.toList_toArray, lit, body_eb]

/-- What a law leaves. -/
def LawPost (w : World) (e : Ending) (w' : World) : Prop := e = .returned (.bool true) ∧ Below w.heap.size w w'

set_option maxRecDepth 20000 in
set_option maxHeartbeats 4000000 in
theorem law3 (t : ByteArray) (ht : t.size ≤ maxLen) (x : Option Addr) (n cap : Nat) (S : Nat → ByteArray) (w : World) (h : StrsAt w x n S) (hS : ∀ i, i < n → (S i).size ≤ maxLen) (hx : x = none → n = 0 ∧ cap = 0) (hv : Vars w) :
    Calls Tryd.prog 3 #[.string t, .slice x n cap] w (LawPost w) := by
  have HB := hide (bytes5 t ht x n cap S w h hS)
  have hm := h.1
  unfold maxLen at hm ht
  have HC := hide h.2
  have HA := hide h
  have HX := hide hx
  have HV := hide hv
  clear h hS hx hv
  go_enter Tryd.func3, Tryd.ntmps3
  go_wp2_with fail
  refine HB.out.mono ?_
  rintro e w1 ⟨he, rfl⟩
  clear HB
  rcases he with rfl | ⟨rfl, hsh⟩
  · go_wp2
    go_ret
    exact ⟨rfl, Below.refl _ _⟩
  have HSH := hide hsh
  clear hsh
  go_wp2
  any_goals (go_ret; exact ⟨rfl, Below.refl _ _⟩)
  have hn16 : n ≤ 65536 := by omega
  go_loop [5, 6] (fun z i => ∃ k : Nat, k ≤ n ∧ i = .int .i64 k ∧ ∃ z' : Int, z = .int .i64 z' ∧ 0 ≤ z' ∧ z' ≤ 1048576) (fun _ i => n - (intOf i).toNat)
  case atStart => exact ⟨0, Nat.zero_le _, rfl, _, rfl, by omega, by omega⟩
  case round =>
    obtain ⟨k, hk, rfl, z, rfl, hz0, hz1⟩ := hrel
    by_cases hlt : k < n
    · obtain ⟨b, off, rfl, hcc⟩ := HC.out (by omega)
      have c1 := hcc k hlt
      have hl := HSH.out k hlt
      clear hcc
      go_wp2
      · go_ret
        exact ⟨rfl, Below.refl _ _⟩
      · go_round
        case rel => exact ⟨k + 1, by omega, by go_num, _, rfl, by omega, by omega⟩
        case measure => simp [intOf]; omega
    · obtain rfl : n = k := by omega
      have K1 := hide (clone_at x n cap S w1 HA.out HX.out hn16)
      go_wp2_with fail
      refine K1.out.mono ?_
      rintro e w2 ⟨x2, cap2, rfl, hA2, hb2⟩
      have HA2 := hide hA2
      have HB2 := hide hb2
      have L1 := hide (zz_literal t x2 n cap2 S w2 hA2 (by omega) HSH.out (HV.out.mono hb2 (Nat.le_refl _)))
      clear hA2 hb2 K1 HA HC HX
      go_wp2_with fail
      refine L1.out.mono ?_
      rintro e w3 ⟨rfl, hb3⟩
      have HA3 := hide (HA2.out.mono hb3 (Nat.le_refl _))
      have HB3 := hide (HB2.out.trans (hb3.mono HB2.out.size))
      have D1 := hide (decode_at _ _ _ w3 (isLit t S n) (by
        show (lit t S n).toArray.size ≤ _
        rw [List.size_toArray]
        have := body_len t S n HSH.out n (Nat.le_refl _)
        simp only [lit, List.length_append, List.length_cons, List.length_nil]
        omega))
      clear hb3 L1 HA2 HB2
      go_wp2_with fail
      refine D1.out.mono ?_
      rintro e w4 ⟨x4, cap4, rfl, hA4, hb4⟩
      have HA4 := hide hA4
      have HA5 := hide (HA3.out.mono hb4 (Nat.le_refl _))
      have HB4 := hide (HB3.out.trans (hb4.mono HB3.out.size))
      have hmn := ks_le t S n
      clear hA4 hb4 D1 HA3 HB3
      have HN := hide (fun k => @ks_at t S k n)
      generalize hM : (ks t S n).length = M at *
      have HMM := hide hM
      clear hM
      generalize ({ data := (lit t S n).toArray } : ByteArray) = U at *
      go_wp2
      go_loopw [10, 11] (fun kk i wr => ∃ k : Nat, k ≤ n ∧ i = .int .i64 k ∧ kk = .int .i64 ((ks t S k).length : Nat) ∧ Below w4.heap.size w4 wr) (fun _ i _ => n - (intOf i).toNat)
      case atStart => exact ⟨0, Nat.zero_le _, rfl, rfl, Below.refl _ _⟩
      case round =>
        obtain ⟨k, hk, rfl, rfl, hb5⟩ := hrel
        by_cases hlt' : k < n
        · obtain ⟨b, off, rfl, hcc⟩ := HA5.out.2 (by omega)
          have c1 := (hb5.cell (p := ⟨b, off + k, none⟩) (World.block_lt_of_cell? w4 _ (hcc k hlt'))).trans (hcc k hlt')
          have HP := hide (pg_at t (S k) (HSH.out k hlt') wr)
          have HB5 := hide hb5
          have hkl := ks_le t S k
          clear hb5
          cases hkp : keeps t (S k) with
          | false =>
            have HK := hide (ks_no hkp)
            go_wp2_with fail
            refine HP.out.mono ?_
            rintro e w6 ⟨rfl, hb6⟩
            rw [hkp]
            have HB6 := hide (HB5.out.trans (hb6.mono HB5.out.size))
            clear hb6 HP HB5 hcc c1
            go_wp2
            go_roundw
            case rel => exact ⟨k + 1, by omega, by go_num, by rw [HK.out], HB6.out⟩
            case measure => simp [intOf]; omega
          | true =>
            have HK := hide (show (ks t S (k + 1)).length = (ks t S k).length + 1 by rw [ks_yes hkp]; simp)
            obtain ⟨g1, g2⟩ := HN.out k hlt' hkp
            obtain ⟨b', off', rfl, hdd⟩ := HA4.out.2 (by omega)
            have d2 := hdd _ g1
            rw [g2] at d2
            have D2 := hide d2
            have D1 := hide (hcc k hlt')
            clear hdd g2 d2 hcc
            generalize (ks t S k).length = p at *
            go_wp2_with fail
            refine HP.out.mono ?_
            rintro e w6 ⟨rfl, hb6⟩
            rw [hkp]
            have HB6 := hide (HB5.out.trans (hb6.mono HB5.out.size))
            have c2 := (HB6.out.cell (p := ⟨b, off + k, none⟩) (World.block_lt_of_cell? w4 _ D1.out)).trans D1.out
            have c3 := (HB6.out.cell (p := ⟨b', off' + p, none⟩) (World.block_lt_of_cell? w4 _ D2.out)).trans D2.out
            have hd : decide ((M : Int) ≤ (p : Int)) = false := decide_eq_false (by omega)
            clear hb6 HP HB5 c1 D1 D2
            go_wp2_with fail
            go_quiet (fail)
            go_wp2
            go_roundw
            case rel => exact ⟨k + 1, by omega, by go_num, by rw [HK.out]; go_num, below_drewN HB6.out _⟩
            case measure => simp [intOf]; omega
        · obtain rfl : n = k := by omega
          rw [HMM.out]
          have HB6 := hide (HB4.out.trans (hb5.mono HB4.out.size))
          clear hb5
          go_wp2
          go_ret
          exact ⟨by simp, HB6.out⟩
end Go.Proofs.Qxb6603473aDoor
