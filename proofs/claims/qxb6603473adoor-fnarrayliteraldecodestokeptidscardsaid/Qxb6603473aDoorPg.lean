import Derived.Test.Qxb6603473aDoorCan2
import Derived.Test.Qxb6603473aDoorCl
namespace Go.Proofs.Qxb6603473aDoor
open Go.RowKit

theorem list_len (d : ByteArray) : d.data.toList.length = d.size := Array.length_toList
theorem list_nil {d : ByteArray} (h : d.size = 0) : d.data.toList = [] := List.eq_nil_of_length_eq_zero (by rw [list_len]; exact h)
theorem list_ne {d : ByteArray} (h : ¬ d.size = 0) : d.data.toList ≠ [] := fun e => h (by rw [← list_len, e]; rfl)

theorem bat_eq {d : ByteArray} (h : byteAt d 0 = 48) : d.data.toList.getD 0 0 = 48 := UInt8.toNat_inj.1 (by
  have h' : ((d.data.toList.getD 0 0).toNat : Int) = 48 := h
  show _ = 48
  omega)
theorem bat_ne {d : ByteArray} (h : ¬ byteAt d 0 = 48) : ¬ d.data.toList.getD 0 0 = 48 := fun e => h (by
  show ((d.data.toList.getD 0 0).toNat : Int) = 48
  rw [e]; rfl)
theorem bat_inj {d g : ByteArray} {i : Nat} (h : byteAt d i = byteAt g i) : d.data.toList.getD i 0 = g.data.toList.getD i 0 := UInt8.toNat_inj.1 (by
  have h' : ((d.data.toList.getD i 0).toNat : Int) = ((g.data.toList.getD i 0).toNat : Int) := h
  omega)
theorem dec_lt {d g : ByteArray} {i : Nat} : decide ((d.data.toList.getD i 0).toNat < (g.data.toList.getD i 0).toNat) = decide (byteAt d i < byteAt g i) := by
  have : ((d.data.toList.getD i 0).toNat < (g.data.toList.getD i 0).toNat) ↔ byteAt d i < byteAt g i := by
    show _ ↔ ((d.data.toList.getD i 0).toNat : Int) < ((g.data.toList.getD i 0).toNat : Int)
    omega
  simp only [this]

/-- The first k bytes of d are digits. -/
def DigTo (d : ByteArray) (k : Nat) : Prop := ∀ i, i < k → 48 ≤ byteAt d i ∧ byteAt d i ≤ 57
theorem DigTo.step {d : ByteArray} {k : Nat} (h : DigTo d k) (hc : 48 ≤ byteAt d k ∧ byteAt d k ≤ 57) : DigTo d (k + 1) := fun i hi => by
  by_cases e : i = k
  · subst e; exact hc
  · exact h i (by omega)
theorem dig_all {d : ByteArray} (h : DigTo d d.size) : digs d.data.toList = true := digs_true fun i hi => by
  have : 48 ≤ ((d.data.toList.getD i 0).toNat : Int) ∧ ((d.data.toList.getD i 0).toNat : Int) ≤ 57 := h i (by rw [list_len] at hi; exact hi)
  omega
theorem dig_bad {d : ByteArray} {k : Nat} (hk : k < d.size) (h : ¬ (48 ≤ byteAt d k ∧ byteAt d k ≤ 57)) : digs d.data.toList = false :=
  digs_false (i := k) (by rw [list_len]; exact hk) fun hh => h (by
    show 48 ≤ ((d.data.toList.getD k 0).toNat : Int) ∧ ((d.data.toList.getD k 0).toNat : Int) ≤ 57
    omega)

theorem head_minus {s : ByteArray} (h0 : 0 < s.size) (h : byteAt s 0 = 45) : s.data.toList = 45 :: (s.extract 1 s.size).data.toList := by
  have h1 : s.data.toList.getD 0 0 = 45 := UInt8.toNat_inj.1 (by
    have h' : ((s.data.toList.getD 0 0).toNat : Int) = 45 := h
    show _ = 45
    omega)
  have e : s.size = s.data.toList.length := (list_len s).symm
  rw [ByteArray.data_extract, e, Array.toList_extract]
  rw [e] at h0
  generalize s.data.toList = l at *
  cases l with
  | nil => simp at h0
  | cons c r => simp at h1; simp [h1]

set_option maxHeartbeats 2000000 in
theorem canonical_at (s : ByteArray) (hs : s.size ≤ 1048576) (w : World) : Calls Tryd.prog 12 #[.string s] w (WPost (wBig s) w) := by
  by_cases hm : 0 < s.size ∧ byteAt s 0 = 45
  · obtain ⟨hp, h45⟩ := hm
    have hix0 := index_at s 0 hp .i64
    replace hix0 := fun w => show (Instr.index 9 (.string s) (.int .i64 0)).run Tryd.prog w = .ok (.int .u8 (byteAt s 0)) w from hix0 w
    rw [h45] at hix0
    have hsl := fun w => run_slice_string_l (P := Tryd.prog) w 9 s Tryd.underlying9 .i64 1 (by omega) (by omega)
    have hw := wBig_neg s (s.extract 1 s.size) (head_minus hp h45)
    have hds : (s.extract 1 s.size).size ≤ 1048576 := by rw [ByteArray.size_extract]; omega
    rw [show (1 : Int).toNat = 1 from rfl] at hsl
    generalize s.extract 1 s.size = d at hsl hw hds
    have HW := hide hw
    clear hw h45
    go_enter Tryd.func12, Tryd.ntmps12
    by_cases h0 : d.size = 0
    · have HR := hide (show wBig s = false by rw [HW.out, list_nil h0, canon_nil])
      go_wp2
      go_ret
      exact ⟨by rw [HR.out]; rfl, Below.refl _ _⟩
    go_wp2
    go_loop [5] (fun i => ∃ k : Nat, k ≤ d.size ∧ i = .int .i64 k ∧ DigTo d k) (fun i => d.size - (intOf i).toNat)
    case atStart => exact ⟨0, Nat.zero_le _, rfl, fun i hi => by omega⟩
    case round =>
      obtain ⟨k, hk, rfl, hD⟩ := hrel
      have HD := hide hD
      clear hD
      by_cases hlt : k < d.size
      · have hix := index_at d k hlt .i64
        obtain ⟨b0, b1⟩ := byteAt_lt d k
        by_cases hc : 48 ≤ byteAt d k ∧ byteAt d k ≤ 57
        · have HD1 := hide (HD.out.step hc)
          obtain ⟨c0, c1⟩ := hc
          generalize byteAt d k = c at hix b0 b1 c0 c1
          go_wp2
          go_round
          case rel => exact ⟨k + 1, by omega, by go_num, HD1.out⟩
          case measure => simp [intOf]; omega
        · have HR := hide (show wBig s = false by rw [HW.out, canon_bad _ (dig_bad hlt hc)])
          have hc' : byteAt d k < 48 ∨ 57 < byteAt d k := by omega
          clear hc
          generalize byteAt d k = c at hix b0 b1 hc'
          rcases hc' with c0 | c0
          all_goals
            go_wp2
            go_ret
            exact ⟨by rw [HR.out]; rfl, Below.refl _ _⟩
      · obtain rfl : d.size = k := by omega
        have HG := hide (dig_all HD.out)
        have HN := hide (list_ne h0)
        have hix0 := index_at d 0 (by omega) .i64
        replace hix0 := fun w => show (Instr.index 9 (.string d) (.int .i64 0)).run Tryd.prog w = .ok (.int .u8 (byteAt d 0)) w from hix0 w
        by_cases hz : byteAt d 0 = 48
        · have HR := hide (show wBig s = (decide (d.data.toList.length = 1) && !true) by rw [HW.out]; exact canon_zero _ HN.out HG.out (bat_eq hz))
          rw [hz] at hix0
          by_cases h1 : d.size = 1
          · have HR1 := hide (show wBig s = false by rw [HR.out, list_len, h1]; rfl)
            go_wp2
            go_ret
            exact ⟨by rw [HR1.out]; rfl, Below.refl _ _⟩
          · have HR1 := hide (show wBig s = false by rw [HR.out, list_len]; simp [h1])
            go_wp2
            go_ret
            exact ⟨by rw [HR1.out]; rfl, Below.refl _ _⟩
        · have HZ := hide (bat_ne hz)
          obtain ⟨b0, b1⟩ := byteAt_lt d 0
          generalize byteAt d 0 = z at hix0 hz b0 b1
          by_cases hl : d.size = 19
          · go_wp2
            go_loopw [7] (fun i wr => ∃ k : Nat, k ≤ 19 ∧ i = .int .i64 k ∧ (∀ j, j < k → d.data.toList.getD j 0 = (lim true).getD j 0) ∧ Below w.heap.size w wr) (fun i _ => 19 - (intOf i).toNat)
            case atStart => exact ⟨0, Nat.zero_le _, rfl, (fun i hi => by omega), Below.refl _ _⟩
            case round =>
              obtain ⟨j, hj, rfl, hs, hb⟩ := hrel
              have HS := hide hs
              have HB := hide hb
              clear hs hb
              by_cases hjl : j < 19
              · have hix := index_at d j (by omega) .i64
                have hiy := index_at ⟨#[57, 50, 50, 51, 51, 55, 50, 48, 51, 54, 56, 53, 52, 55, 55, 53, 56, 48, 56]⟩ j (by show j < 19; omega) .i64
                by_cases he : byteAt d j = byteAt ⟨#[57, 50, 50, 51, 51, 55, 50, 48, 51, 54, 56, 53, 52, 55, 55, 53, 56, 48, 56]⟩ j
                · have HE := hide (show d.data.toList.getD j 0 = (lim true).getD j 0 from bat_inj he)
                  rw [he] at hix
                  generalize byteAt ⟨#[57, 50, 50, 51, 51, 55, 50, 48, 51, 54, 56, 53, 52, 55, 55, 53, 56, 48, 56]⟩ j = c at hix hiy
                  clear he
                  go_wp2_with fail
                  go_region
                  go_wp2
                  go_roundw
                  case rel => exact ⟨j + 1, by omega, by go_num, (fun i hi => by
                    by_cases e : i = j
                    · subst e; exact HE.out
                    · exact HS.out i (by omega)), HB.out.drew⟩
                  case measure => simp [intOf]; omega
                · have HR := hide (show wBig s = decide (byteAt d j < byteAt ⟨#[57, 50, 50, 51, 51, 55, 50, 48, 51, 54, 56, 53, 52, 55, 55, 53, 56, 48, 56]⟩ j) by
                    rw [HW.out]
                    refine (canon_lex true HG.out HZ.out (by rw [list_len]; exact hl) hjl HS.out (fun e => he ?_)).trans ?_
                    · show ((d.data.toList.getD j 0).toNat : Int) = (((lim true).getD j 0).toNat : Int)
                      rw [e]
                    · exact dec_lt (d := d) (g := ⟨#[57, 50, 50, 51, 51, 55, 50, 48, 51, 54, 56, 53, 52, 55, 55, 53, 56, 48, 56]⟩) (i := j))
                  generalize byteAt ⟨#[57, 50, 50, 51, 51, 55, 50, 48, 51, 54, 56, 53, 52, 55, 55, 53, 56, 48, 56]⟩ j = c at hiy he HR
                  generalize byteAt d j = c' at hix he HR
                  by_cases hc : c' < c
                  all_goals
                    go_wp2_with fail
                    go_region
                    go_wp2_with fail
                    go_region
                    go_wp2
                    go_ret
                    exact ⟨by rw [HR.out]; simp [hc], HB.out.drew.drew⟩
              · obtain rfl : 19 = j := by omega
                have HR := hide (show wBig s = true by rw [HW.out]; exact canon_same true HG.out HZ.out (by rw [list_len]; exact hl) HS.out)
                go_wp2
                go_ret
                exact ⟨by rw [HR.out]; rfl, HB.out⟩
          · have HR := hide (show wBig s = decide (d.size < 19) by rw [HW.out]; exact (canon_len true HN.out HG.out HZ.out (by rw [list_len]; exact hl)).trans (by rw [list_len]))
            by_cases hc : d.size < 19
            all_goals
              go_wp2
              go_ret
              exact ⟨by rw [HR.out]; simp [hc]; omega, Below.refl _ _⟩
  · have hw := wBig_pos s (fun hne e => hm ⟨by rw [← list_len]; exact List.length_pos_iff.2 hne, by show ((s.data.toList.getD 0 0).toNat : Int) = 45; rw [e]; rfl⟩)
    obtain ⟨d, rfl⟩ : ∃ d, s = d := ⟨_, rfl⟩
    have HW := hide hw
    clear hw
    by_cases h0 : s.size = 0
    · have HR := hide (show wBig s = false by rw [HW.out, list_nil h0, canon_nil])
      go_enter Tryd.func12, Tryd.ntmps12
      go_wp2
      go_ret
      exact ⟨by rw [HR.out]; rfl, Below.refl _ _⟩
    have hix9 := index_at s 0 (by omega) .i64
    replace hix9 := fun w => show (Instr.index 9 (.string s) (.int .i64 0)).run Tryd.prog w = .ok (.int .u8 (byteAt s 0)) w from hix9 w
    have h45 : ¬ byteAt s 0 = 45 := fun e => hm ⟨by omega, e⟩
    have hz1 := byteAt_lt s 0
    clear hm
    generalize hz0 : byteAt s 0 = z0 at hix9 h45 hz1
    have HZ0 := hide hz0
    have HZ1 := hide hz1
    clear hz0 hz1
    go_enter Tryd.func12, Tryd.ntmps12
    go_wp2
    go_loop [5] (fun i => ∃ k : Nat, k ≤ s.size ∧ i = .int .i64 k ∧ DigTo s k) (fun i => s.size - (intOf i).toNat)
    case atStart => exact ⟨0, Nat.zero_le _, rfl, fun i hi => by omega⟩
    case round =>
      obtain ⟨k, hk, rfl, hD⟩ := hrel
      have HD := hide hD
      clear hD
      by_cases hlt : k < s.size
      · have hix := index_at s k hlt .i64
        obtain ⟨b0, b1⟩ := byteAt_lt s k
        by_cases hc : 48 ≤ byteAt s k ∧ byteAt s k ≤ 57
        · have HD1 := hide (HD.out.step hc)
          obtain ⟨c0, c1⟩ := hc
          generalize byteAt s k = c at hix b0 b1 c0 c1
          go_wp2
          go_round
          case rel => exact ⟨k + 1, by omega, by go_num, HD1.out⟩
          case measure => simp [intOf]; omega
        · have HR := hide (show wBig s = false by rw [HW.out, canon_bad _ (dig_bad hlt hc)])
          have hc' : byteAt s k < 48 ∨ 57 < byteAt s k := by omega
          clear hc
          generalize byteAt s k = c at hix b0 b1 hc'
          rcases hc' with c0 | c0
          all_goals
            go_wp2
            go_ret
            exact ⟨by rw [HR.out]; rfl, Below.refl _ _⟩
      · obtain rfl : s.size = k := by omega
        have HG := hide (dig_all HD.out)
        have HN := hide (list_ne h0)
        by_cases hz : z0 = 48
        · have HR := hide (show wBig s = (decide (s.data.toList.length = 1) && !false) by rw [HW.out]; exact canon_zero _ HN.out HG.out (bat_eq (HZ0.out.trans hz)))
          rw [hz] at hix9
          by_cases h1 : s.size = 1
          · have HR1 := hide (show wBig s = true by rw [HR.out, list_len, h1]; rfl)
            go_wp2
            go_ret
            exact ⟨by rw [HR1.out]; rfl, Below.refl _ _⟩
          · have HR1 := hide (show wBig s = false by rw [HR.out, list_len]; simp [h1])
            go_wp2
            go_ret
            exact ⟨by rw [HR1.out]; rfl, Below.refl _ _⟩
        · have HZ := hide (bat_ne (fun e => hz (HZ0.out.symm.trans e)))
          obtain ⟨b0, b1⟩ := HZ1.out
          by_cases hl : s.size = 19
          · go_wp2
            go_loopw [7] (fun i wr => ∃ k : Nat, k ≤ 19 ∧ i = .int .i64 k ∧ (∀ j, j < k → s.data.toList.getD j 0 = (lim false).getD j 0) ∧ Below w.heap.size w wr) (fun i _ => 19 - (intOf i).toNat)
            case atStart => exact ⟨0, Nat.zero_le _, rfl, (fun i hi => by omega), Below.refl _ _⟩
            case round =>
              obtain ⟨j, hj, rfl, hs, hb⟩ := hrel
              have HS := hide hs
              have HB := hide hb
              clear hs hb
              by_cases hjl : j < 19
              · have hix := index_at s j (by omega) .i64
                have hiy := index_at ⟨#[57, 50, 50, 51, 51, 55, 50, 48, 51, 54, 56, 53, 52, 55, 55, 53, 56, 48, 55]⟩ j (by show j < 19; omega) .i64
                by_cases he : byteAt s j = byteAt ⟨#[57, 50, 50, 51, 51, 55, 50, 48, 51, 54, 56, 53, 52, 55, 55, 53, 56, 48, 55]⟩ j
                · have HE := hide (show s.data.toList.getD j 0 = (lim false).getD j 0 from bat_inj he)
                  rw [he] at hix
                  generalize byteAt ⟨#[57, 50, 50, 51, 51, 55, 50, 48, 51, 54, 56, 53, 52, 55, 55, 53, 56, 48, 55]⟩ j = c at hix hiy
                  clear he
                  go_wp2_with fail
                  go_region
                  go_wp2
                  go_roundw
                  case rel => exact ⟨j + 1, by omega, by go_num, (fun i hi => by
                    by_cases e : i = j
                    · subst e; exact HE.out
                    · exact HS.out i (by omega)), HB.out.drew⟩
                  case measure => simp [intOf]; omega
                · have HR := hide (show wBig s = decide (byteAt s j < byteAt ⟨#[57, 50, 50, 51, 51, 55, 50, 48, 51, 54, 56, 53, 52, 55, 55, 53, 56, 48, 55]⟩ j) by
                    rw [HW.out]
                    refine (canon_lex false HG.out HZ.out (by rw [list_len]; exact hl) hjl HS.out (fun e => he ?_)).trans ?_
                    · show ((s.data.toList.getD j 0).toNat : Int) = (((lim false).getD j 0).toNat : Int)
                      rw [e]
                    · exact dec_lt (d := s) (g := ⟨#[57, 50, 50, 51, 51, 55, 50, 48, 51, 54, 56, 53, 52, 55, 55, 53, 56, 48, 55]⟩) (i := j))
                  generalize byteAt ⟨#[57, 50, 50, 51, 51, 55, 50, 48, 51, 54, 56, 53, 52, 55, 55, 53, 56, 48, 55]⟩ j = c at hiy he HR
                  generalize byteAt s j = c' at hix he HR
                  by_cases hc : c' < c
                  all_goals
                    go_wp2_with fail
                    go_region
                    go_wp2_with fail
                    go_region
                    go_wp2
                    go_ret
                    exact ⟨by rw [HR.out]; simp [hc], HB.out.drew.drew⟩
              · obtain rfl : 19 = j := by omega
                have HR := hide (show wBig s = true by rw [HW.out]; exact canon_same false HG.out HZ.out (by rw [list_len]; exact hl) HS.out)
                go_wp2
                go_ret
                exact ⟨by rw [HR.out]; rfl, HB.out⟩
          · have HR := hide (show wBig s = decide (s.size < 19) by rw [HW.out]; exact (canon_len false HN.out HG.out HZ.out (by rw [list_len]; exact hl)).trans (by rw [list_len]))
            by_cases hc : s.size < 19
            all_goals
              go_wp2
              go_ret
              exact ⟨by rw [HR.out]; simp [hc]; omega, Below.refl _ _⟩
end Go.Proofs.Qxb6603473aDoor
