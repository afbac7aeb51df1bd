import Derived.Test.Qxb6603473aDoorSpl
namespace Go.Proofs.Qxb6603473aDoor
open Go.RowKit

theorem one_new {W : World} {B : Nat} (hB : B = W.heap.size) (x : Value) (e : TypeId) : ∀ j u, [x][j]? = some u → (W.alloc (.cells #[x] e)).cell? ((⟨B, 0, none⟩ : Addr).add j) = some u := by
  subst hB
  intro j u hj
  rw [Go.WideShapes.add_plain, Nat.zero_add, cell_of_row _ _ _ _ _ _ (heap_alloc_new W _)]
  simpa using hj
theorem one_str (z : ByteArray) : ∀ u, u ∈ [Value.string z] → u.oneCell' = true := by
  intro u hu
  simp at hu
  subst hu; rfl

def strs (S : Nat → ByteArray) : Nat → List Value
  | 0 => []
  | k + 1 => strs S k ++ [.string (S k)]
theorem strs_len (S : Nat → ByteArray) : ∀ k, (strs S k).length = k
  | 0 => rfl
  | k + 1 => by simp [strs, strs_len S k]
theorem strs_get (S : Nat → ByteArray) : ∀ k i, i < k → (strs S k)[i]? = some (.string (S i))
  | 0, i, h => by omega
  | k + 1, i, h => by
    simp only [strs]
    by_cases e : i = k
    · subst e
      rw [List.getElem?_append_right (by rw [strs_len]; omega), strs_len]; simp
    · rw [List.getElem?_append_left (by rw [strs_len]; omega)]
      exact strs_get S k i (by omega)

/-- The slice v is a row of the call's own that reads as S's first k. -/
structure SRow (w : World) (v : Value) (S : Nat → ByteArray) (k : Nat) (wr : World) : Prop where
  below : Below w.heap.size w wr
  own : wr.ownsRow w.heap.size 9 1 v k (strs S k)

theorem SRow.step {w wr w1 : World} {v v' : Value} {S : Nat → ByteArray} {k : Nat} (h : SRow w v S k wr) {o : Obj}
    (h1 : w1.ownsRow w.heap.size 9 1 v' (k + 1) (strs S k ++ [.string (S k)])) (hg : (wr.alloc o).grownBy w1 v.ownBlock) : SRow w v' S (k + 1) w1 :=
  ⟨(h.below.alloc h.below.size _).grown hg (by simp; have := h.below.size; omega) (fun j hj => (h.own.lt j hj).1), h1⟩

theorem SRow.strsAt {w wr : World} {v : Value} {S : Nat → ByteArray} {k : Nat} (h : SRow w v S k wr) (hk : k ≤ maxLen) : ∃ x cap, v = .slice x k cap ∧ StrsAt wr x k S := by
  rcases h.own.2 with ⟨rfl, rfl⟩ | ⟨g, cap, cur, rfl, hg, hb, hcap, hcm, hs, ht⟩
  · exact ⟨_, _, rfl, Nat.zero_le _, fun h => by omega⟩
  · refine ⟨_, _, rfl, hk, fun _ => ⟨g, 0, rfl, fun i hi => ?_⟩⟩
    have := h.own.cells (g := g) rfl i (.string (S i)) (strs_get S k i hi)
    rw [Go.WideShapes.add_plain] at this
    exact this

/-- What a law leaves. -/
def LawPost (w : World) (e : Ending) (w' : World) : Prop := e = .returned (.bool true) ∧ Below w.heap.size w w'

theorem cat_lo {S T : Nat → ByteArray} {n k : Nat} (h : k < n) : cat S n T k = S k := by rw [cat, if_pos h]
theorem cat_hi {S T : Nat → ByteArray} {n k : Nat} : cat S n T (n + k) = T k := by rw [cat, if_neg (by omega), Nat.add_sub_cancel_left]

theorem cat_short {n m : Nat} {S T : Nat → ByteArray} (h : Short n S) (h' : Short m T) : Short (n + m) (cat S n T) := fun i hi => by
  unfold cat
  split
  · exact h i (by assumption)
  · exact h' (i - n) (by omega)

theorem parts_eq (p q : List UInt8) : ((⟨p.toArray⟩ : ByteArray).extract 0 (p.length - 1) ++ ⟨#[44]⟩ ++ (⟨q.toArray⟩ : ByteArray).extract 1 q.length).toList = p.take (p.length - 1) ++ 44 :: q.tail := by
  rw [ByteArray.toList_eq]
  simp [ByteArray.data_append, ByteArray.data_extract]
  rw [List.dropLast_eq_take, List.take_of_length_le (l := q.tail) (by simp)]

set_option maxRecDepth 20000 in
set_option maxHeartbeats 4000000 in
theorem law4 (t : ByteArray) (ht : t.size ≤ maxLen) (x y : Option Addr) (n m cap cap' : Nat) (S T : Nat → ByteArray) (w : World) (h : StrsAt w x n S) (hS : ∀ i, i < n → (S i).size ≤ maxLen) (hx : x = none → n = 0 ∧ cap = 0)
    (h' : StrsAt w y m T) (hT : ∀ i, i < m → (T i).size ≤ maxLen) (hy : y = none → m = 0 ∧ cap' = 0) (hv : Vars w) :
    Calls Tryd.prog 4 #[.string t, .slice x n cap, .slice y m cap'] w (LawPost w) := by
  have HB := hide (bytes10 t ht x y n m cap cap' S T w h hS h' hT)
  have hm := h.1
  have hm' := h'.1
  unfold maxLen at hm hm' ht
  have HC := hide h.2
  have HC' := hide h'.2
  have HA := hide h
  have HA' := hide h'
  have HX := hide hx
  have HY := hide hy
  have HV := hide hv
  clear h h' hS hT hx hy hv
  go_enter Tryd.func4, Tryd.ntmps4
  go_wp2_with fail
  refine HB.out.mono ?_
  rintro e w1 ⟨he, rfl⟩
  clear HB
  rcases he with rfl | ⟨rfl, hsh, hsh'⟩
  · go_wp2
    go_ret
    exact ⟨rfl, Below.refl _ _⟩
  have HSH := hide hsh
  have HSH' := hide hsh'
  clear hsh hsh'
  go_wp2
  any_goals (go_ret; exact ⟨rfl, Below.refl _ _⟩)
  have hn16 : n ≤ 65536 := by omega
  have hm16 : m ≤ 65536 := by omega
  go_loop [7, 8] (fun z i => ∃ k : Nat, k ≤ n ∧ i = .int .i64 k ∧ ∃ z' : Int, z = .int .i64 z' ∧ 0 ≤ z' ∧ z' ≤ 1048576) (fun _ i => n - (intOf i).toNat)
  case atStart => exact ⟨0, Nat.zero_le _, rfl, _, rfl, by omega, by omega⟩
  case round =>
    obtain ⟨k, hk, rfl, z, rfl, hz0, hz1⟩ := hrel
    by_cases hlt : k < n
    · obtain ⟨b, off, rfl, hcc⟩ := HC.out (by omega)
      have c1 := hcc k hlt
      have hl := HSH.out k hlt
      clear hcc
      go_wp2
      · go_ret
        exact ⟨rfl, Below.refl _ _⟩
      · go_round
        case rel => exact ⟨k + 1, by omega, by go_num, _, rfl, by omega, by omega⟩
        case measure => simp [intOf]; omega
    · obtain rfl : n = k := by omega
      go_wp2
      go_loop [7, 9] (fun z i => ∃ k : Nat, k ≤ m ∧ i = .int .i64 k ∧ ∃ z' : Int, z = .int .i64 z' ∧ 0 ≤ z' ∧ z' ≤ 1048576) (fun _ i => m - (intOf i).toNat)
      case atStart => exact ⟨0, Nat.zero_le _, rfl, _, rfl, by omega, by omega⟩
      case round =>
        obtain ⟨j, hj, rfl, z', rfl, hy0, hy1⟩ := hrel
        by_cases hlt' : j < m
        · obtain ⟨b, off, rfl, hcc⟩ := HC'.out (by omega)
          have c1 := hcc j hlt'
          have hl := HSH'.out j hlt'
          clear hcc
          go_wp2
          · go_ret
            exact ⟨rfl, Below.refl _ _⟩
          · go_round
            case rel => exact ⟨j + 1, by omega, by go_num, _, rfl, by omega, by omega⟩
            case measure => simp [intOf]; omega
        · obtain rfl : m = j := by omega
          have K1 := hide (clone_at x n cap S w1 HA.out HX.out hn16)
          go_wp2_with fail
          refine K1.out.mono ?_
          rintro e w2 ⟨x2, cap2, rfl, hA2, hb2⟩
          have HA2 := hide hA2
          have HB2 := hide hb2
          have K2 := hide (clone_at y m cap' T w2 (HA'.out.mono hb2 (Nat.le_refl _)) HY.out hm16)
          clear hA2 hb2 K1
          go_wp2_with fail
          refine K2.out.mono ?_
          rintro e w3 ⟨y2, cap3, rfl, hA3, hb3⟩
          have HA3 := hide (HA2.out.mono hb3 (Nat.le_refl _))
          have HA3' := hide hA3
          have HB3 := hide (HB2.out.trans (hb3.mono HB2.out.size))
          clear hA3 hb3 K2 HA2 HB2 HA HA' HC HC' HX HY
          obtain ⟨i0, hi, hz0, hz1, hz2⟩ := info_parts info9
          obtain ⟨w4, hmk, ho2, hg2⟩ := run_make_own (P := Tryd.prog) w3 w3.heap.size 22 9 i0 _ 1 Tryd.underlying22 hi hz0 hz1 .i64 .i64 (n + m) (by rw [hz2]; omega) (by unfold maxLen; omega) (Nat.le_refl _)
          have M0 : SRow w3 (.slice (some ⟨w3.heap.size, 0, none⟩) 0 (n + m)) (cat S n T) 0 w4 :=
            ⟨(Below.refl _ _).grown hg2 (Nat.le_refl _) (fun k hk => by cases hk), by simpa [strs] using ho2⟩
          rw [show ((n + m : Nat) : Int) = (n : Int) + (m : Int) from by omega] at hmk
          clear ho2 hg2
          go_wp2
          go_loopw [10, 11] (fun v i wr => ∃ k : Nat, k ≤ n ∧ i = .int .i64 k ∧ SRow w3 v (cat S n T) k wr) (fun _ i _ => n - (intOf i).toNat)
          case atStart => exact ⟨0, Nat.zero_le _, rfl, M0⟩
          case round =>
            clear hmk M0
            obtain ⟨k, hk, rfl, M⟩ := hrel
            have hwz := M.below.size
            have hown := M.own
            have HM := hide M
            by_cases hlt : k < n
            · obtain ⟨b, off, rfl, hcc⟩ := (HA3.out.mono M.below (Nat.le_refl _)).2 (by omega)
              have c1 := hcc k hlt
              rw [← cat_lo (S := S) (T := T) hlt] at c1
              clear hcc M
              go_wp2_with (at_builtin; refine wpList_append_own _ rfl _ _ 22 rfl w3.heap.size 9 i0 _ 1 16 Tryd.underlying22 hi hz0 hz1 hz2 rfl (by decide) _ _ _ rfl (hown.alloc _) ⟨wr.heap.size, 0, none⟩ 1 1 [.string (cat S n T k)] rfl rfl (one_new (by simp) _ _) (one_str _) (by unfold maxLen; omega) (by omega) (by simp; omega) ?_)
              intro v' w5 hown1 hg1 _
              have M1 := hide (HM.out.step hown1 hg1)
              clear hown1 hg1 hown
              go_wp2
              go_roundw
              case rel => exact ⟨k + 1, by omega, by go_num, M1.out⟩
              case measure => simp [intOf]; omega
            · obtain rfl : n = k := by omega
              clear M
              go_wp2
              go_loopw [10, 12] (fun v i wi => ∃ j : Nat, j ≤ m ∧ i = .int .i64 j ∧ SRow w3 v (cat S n T) (n + j) wi) (fun _ i _ => m - (intOf i).toNat)
              case atStart => exact ⟨0, Nat.zero_le _, rfl, HM.out⟩
              case round =>
                clear HM hwz hown
                obtain ⟨j, hj, rfl, M⟩ := hrel
                have hwz := M.below.size
                have hown := M.own
                have HM := hide M
                by_cases hlt' : j < m
                · obtain ⟨b, off, rfl, hcc⟩ := (HA3'.out.mono M.below (Nat.le_refl _)).2 (by omega)
                  have c1 := hcc j hlt'
                  rw [← cat_hi (S := S) (T := T) (n := n)] at c1
                  clear hcc M
                  go_wp2_with (at_builtin; refine wpList_append_own _ rfl _ _ 22 rfl w3.heap.size 9 i0 _ 1 16 Tryd.underlying22 hi hz0 hz1 hz2 rfl (by decide) _ _ _ rfl (hown.alloc _) ⟨wr.heap.size, 0, none⟩ 1 1 [.string (cat S n T (n + j))] rfl rfl (one_new (by simp) _ _) (one_str _) (by unfold maxLen; omega) (by omega) (by simp; omega) ?_)
                  intro v' w5 hown1 hg1 _
                  have M1 := hide (HM.out.step hown1 hg1)
                  clear hown1 hg1 hown
                  go_wp2
                  go_roundw
                  case rel => exact ⟨j + 1, by omega, by go_num, M1.out⟩
                  case measure => simp [intOf]; omega
                · obtain rfl : m = j := by omega
                  obtain ⟨x5, cap5, rfl, hA5⟩ := M.strsAt (by unfold maxLen; omega)
                  have HA5 := hide hA5
                  have L1 := hide (zz_literal t x2 n cap2 S wr (HA3.out.mono M.below (Nat.le_refl _)) (by omega) HSH.out (HV.out.mono (HB3.out.trans (M.below.mono HB3.out.size)) (Nat.le_refl _)))
                  have B5 := hide M.below
                  clear M HM hown hA5 hi hz0 hz1 hz2
                  go_wp2_with fail
                  refine L1.out.mono ?_
                  rintro e w6 ⟨rfl, hb6⟩
                  have B6 := hide (B5.out.trans (hb6.mono B5.out.size))
                  have HA6 := hide (HA5.out.mono hb6 (Nat.le_refl _))
                  have L2 := hide (zz_literal t y2 m cap3 T w6 (HA3'.out.mono B6.out (Nat.le_refl _)) (by omega) HSH'.out (HV.out.mono (HB3.out.trans (B6.out.mono HB3.out.size)) (Nat.le_refl _)))
                  clear L1 hb6 HA5 B5
                  go_wp2_with fail
                  refine L2.out.mono ?_
                  rintro e w7 ⟨rfl, hb7⟩
                  have B7 := hide (B6.out.trans (hb7.mono B6.out.size))
                  have L3 := hide (zz_literal t x5 (n + m) cap5 (cat S n T) w7 (HA6.out.mono hb7 (Nat.le_refl _)) (by omega) (cat_short HSH.out HSH'.out) (HV.out.mono (HB3.out.trans (B7.out.mono HB3.out.size)) (Nat.le_refl _)))
                  clear L2 hb7 B6 HA6
                  go_wp2_with fail
                  refine L3.out.mono ?_
                  rintro e w8 ⟨rfl, hb8⟩
                  have HF := hide (HB3.out.trans ((B7.out.trans (hb8.mono B7.out.size)).mono HB3.out.size))
                  clear hb8 B7 L3 HB3 HA3 HA3'
                  have hX2 := lit_two t S n
                  have hY2 := lit_two t T m
                  have hXl := lit_len t S n (by omega) HSH.out
                  have hYl := lit_len t T m (by omega) HSH'.out
                  have hl := hide (@lit_cat_left t S T n m)
                  have hr := hide (@lit_cat_right t S T n m)
                  have hb := hide (@lit_cat_both t S T n m)
                  generalize lit t S n = LX at *
                  generalize lit t T m = LY at *
                  generalize lit t (cat S n T) (n + m) = LZ at *
                  by_cases hx : LX = [123, 125]
                  · obtain rfl := hl.out hx
                    subst hx
                    go_wp2
                    go_ret
                    exact ⟨by simp, HF.out⟩
                  · have hx' : (LX == [123, 125]) = false := beq_eq_false_iff_ne.2 hx
                    by_cases hy : LY = [123, 125]
                    · obtain rfl := hr.out hy
                      subst hy
                      clear hx
                      go_wp2
                      go_ret
                      exact ⟨by simp, HF.out⟩
                    · obtain rfl := hb.out hx hy
                      have hy' : (LY == [123, 125]) = false := beq_eq_false_iff_ne.2 hy
                      clear hx hy
                      go_wp2_with fail
                      go_region
                      rw [parts_eq]
                      go_wp2
                      go_ret
                      exact ⟨by simp, HF.out.drew⟩
end Go.Proofs.Qxb6603473aDoor
