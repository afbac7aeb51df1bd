import Derived.Test.Qxb6602877aWalkB
namespace Go.Proofs.Qxb6602877a
open Go.RowKit

def ScanPost (r : Nat × Bool) (w : World) (e : Ending) (w' : World) : Prop := e = .returned (.tuple #[.int .i64 (r.1 : Int), .bool r.2]) ∧ Below w.heap.size w w'

set_option maxHeartbeats 2000000 in
set_option maxRecDepth 100000 in
theorem scan_any (b off n cap : Nat) (C : Nat → Int) (i : Nat) (w : World) (hc : Bytes w b off n C) (hi : i < n) (hn : n ≤ 1048576) :
    Calls Try.prog 26 #[.slice (some ⟨b, off, none⟩) n cap, .int .i64 i] w (ScanPost (Num.scan C n i) w) := by
  have hmf : ∀ (fn : Fn) (first cap : Array Value) (w : World), (Instr.makeFunc fn first cap).run Try.prog w = .ok (.func fn first cap) w := fun _ _ _ _ => rfl
  have c0 : (w.alloc (.cells #[.slice (some ⟨b, off, none⟩) n cap] 22)).cell? ⟨w.heap.size, 0, none⟩ = some (.slice (some ⟨b, off, none⟩) n cap) := by rw [World.cell?_alloc_at _ _ _ _ rfl]; rfl
  have hc' : Bytes (w.alloc (.cells #[.slice (some ⟨b, off, none⟩) n cap] 22)) b off n C := fun j hj => by
    rw [World.cell?_alloc_past _ _ _ (by exact World.block_lt_of_cell? w _ (hc j hj))]; exact hc j hj
  have hbel := (Below.refl w.heap.size w).alloc (Nat.le_refl _) (.cells #[.slice (some ⟨b, off, none⟩) n cap] 22)
  have HC := hide hc'
  have ci := hc' i hi
  clear hc hc'
  go_enter Try.func26, Try.ntmps26
  go_upto_if 14 with fail
  generalize w.alloc (.cells #[.slice (some ⟨b, off, none⟩) n cap] 22) = W at *
  go_cut [1] (fun v w' => ∃ k : Nat, v = .int .i64 k ∧ k ≤ n ∧ Hid (Num.scan C n i = Num.scan1 C n k) ∧ w' = W)
  case first =>
    by_cases h45 : C i = 45
    · have hb : (C i == 45) = true := beq_iff_eq.2 h45
      have H45 := hide h45
      clear h45
      go_wp2_with fail
      go_meet
      case rel => exact ⟨i + 1, by go_num, by omega, by show _ = _; simp only [Num.scan, H45.out, if_true], rfl⟩
    · have hb : (C i == 45) = false := beq_eq_false_iff_ne.2 h45
      have H45 := hide h45
      clear h45
      go_wp2_with fail
      go_meet
      case rel => exact ⟨i, rfl, by omega, by show _ = _; simp only [Num.scan, H45.out, if_false], rfl⟩
  case rest =>
    clear ci
    obtain ⟨k, rfl, hk, HR, rfl⟩ := hcut
    go_upto_block 0 with fail
    go_cut [1] (fun v w' => ∃ m : Nat, v = .int .i64 m ∧ m ≤ n ∧ Hid (Num.scan C n i = Num.tailF C n m) ∧ w' = wc)
    case first =>
      by_cases hkn : k = n
      · have hb : ((k : Int) == (n : Int)) = true := beq_iff_eq.2 (by omega)
        have HK := hide hkn
        clear hkn
        go_wp2_with fail
        go_ret2
        exact ⟨by rw [HR.out]; simp only [Num.scan1, HK.out, if_true]; rfl, hbel⟩
      have hb : ((k : Int) == (n : Int)) = false := beq_eq_false_iff_ne.2 (by omega)
      have hkl : k < n := by omega
      have HK := hide hkn
      clear hkn
      have ck := HC.out k hkl
      by_cases h48 : C k = 48
      · have hb48 : (C k == 48) = true := beq_iff_eq.2 h48
        have H48 := hide h48
        clear h48
        go_wp2_with fail
        go_meet
        case rel => exact ⟨k + 1, by go_num, by omega, by show _ = _; rw [HR.out, Num.scan1, if_neg HK.out, if_pos H48.out], rfl⟩
      have hb48 : (C k == 48) = false := beq_eq_false_iff_ne.2 h48
      have H48 := hide h48
      clear h48
      by_cases h49 : 49 ≤ C k
      · by_cases h57 : C k ≤ 57
        · go_wp2_with fail
          refine (digits_any b off n cap w.heap.size C k wc c0 HC.out (by omega) hn).mono ?_
          rintro e w' ⟨rfl, rfl⟩
          have HM : Hid (Num.scan C n i = Num.tailF C n (Num.D C n k)) := by
            show _ = _; rw [HR.out, Num.scan1, if_neg HK.out, if_neg H48.out, if_pos (by simp [Num.nz, h49, h57])]
          have hle := Num.D_le (C := C) hk
          generalize Num.D C n k = m at *
          go_wp2_with fail
          go_meet
          case rel => exact ⟨m, rfl, hle, HM, rfl⟩
        · go_wp2_with fail
          go_ret2
          exact ⟨by rw [HR.out, Num.scan1, if_neg HK.out, if_neg H48.out, if_neg (by simp [Num.nz]; omega)]; rfl, hbel⟩
      · go_wp2_with fail
        go_ret2
        exact ⟨by rw [HR.out, Num.scan1, if_neg HK.out, if_neg H48.out, if_neg (by simp [Num.nz]; omega)]; rfl, hbel⟩
    case rest =>
      obtain ⟨m, rfl, hm, HF, rfl⟩ := hcut
      clear HR hk
      go_upto_region 11 with fail
      go_cut [56] (fun v w' => v = .bool (decide (m < n ∧ C m = 46)) ∧ w' = wc)
      case first =>
        by_cases hmn : m < n
        · have cm := HC.out m hmn
          by_cases h46 : C m = 46
          · have hb46 : (C m == 46) = true := beq_iff_eq.2 h46
            have H46 := hide h46
            clear h46
            go_wp2_with fail
            go_meet
            exact ⟨by rw [decide_eq_true ⟨hmn, H46.out⟩], rfl⟩
          · have hb46 : (C m == 46) = false := beq_eq_false_iff_ne.2 h46
            have H46 := hide h46
            clear h46
            go_wp2_with fail
            go_meet
            exact ⟨by rw [decide_eq_false (fun e => H46.out e.2)], rfl⟩
        · go_wp2_with fail
          go_meet
          exact ⟨by rw [decide_eq_false (fun e => hmn e.1)], rfl⟩
      case rest =>
        obtain ⟨rfl, rfl⟩ := hcut
        go_upto_if 56 with fail
        go_cut [1] (fun v w' => ∃ j : Nat, v = .int .i64 j ∧ j ≤ n ∧ Hid (Num.scan C n i = Num.tailE C n j) ∧ w' = wc)
        case first =>
          by_cases hp : m < n ∧ C m = 46
          · rw [decide_eq_true hp]
            have HP := hide hp
            have hmn := hp.1
            clear hp
            go_wp2_with fail
            refine (digits_any b off n cap w.heap.size C (m + 1) wc c0 HC.out (by omega) hn).mono ?_
            rintro e w' ⟨rfl, rfl⟩
            have hle := Num.D_le (C := C) (n := n) (j := m + 1) (by omega)
            have HT := hide (show Num.scan C n i = if m + 1 < Num.D C n (m + 1) then Num.tailE C n (Num.D C n (m + 1)) else (0, false) by rw [HF.out, Num.tailF, if_pos HP.out])
            generalize Num.D C n (m + 1) = q at *
            by_cases hq : m + 1 < q
            · go_wp2_with fail
              go_meet
              case rel => exact ⟨q, rfl, hle, by show _ = _; rw [HT.out, if_pos hq], rfl⟩
            · go_wp2_with fail
              go_ret2
              exact ⟨by rw [HT.out, if_neg hq]; rfl, hbel⟩
          · rw [decide_eq_false hp]
            have HP := hide hp
            clear hp
            go_wp2_with fail
            go_meet
            case rel => exact ⟨m, rfl, hm, by show _ = _; rw [HF.out, Num.tailF, if_neg HP.out], rfl⟩
        case rest =>
          obtain ⟨j, rfl, hj, HE, rfl⟩ := hcut
          clear HF hm
          go_upto_region 16 with fail
          go_cut [83] (fun v w' => v = .bool (decide (j < n ∧ Num.mark (C j) = true)) ∧ w' = wc)
          case first =>
            by_cases hjn : j < n
            · have cj := HC.out j hjn
              by_cases hE : C j = 101
              · have hbE : (C j == 101) = true := beq_iff_eq.2 hE
                have H1 := hide hE
                clear hE
                go_wp2_with fail
                go_meet
                exact ⟨by rw [decide_eq_true ⟨hjn, by simp [Num.mark, H1.out]⟩], rfl⟩
              · have hbE : (C j == 101) = false := beq_eq_false_iff_ne.2 hE
                by_cases hE2 : C j = 69
                · have hbE2 : (C j == 69) = true := beq_iff_eq.2 hE2
                  have H1 := hide hE2
                  clear hE hE2
                  go_wp2_with fail
                  go_meet
                  exact ⟨by rw [decide_eq_true ⟨hjn, by simp [Num.mark, H1.out]⟩], rfl⟩
                · have hbE2 : (C j == 69) = false := beq_eq_false_iff_ne.2 hE2
                  have H1 := hide hE
                  have H2 := hide hE2
                  clear hE hE2
                  go_wp2_with fail
                  go_meet
                  exact ⟨by rw [decide_eq_false (fun e => by have := e.2; simp [Num.mark, H1.out, H2.out] at this)], rfl⟩
            · go_wp2_with fail
              go_meet
              exact ⟨by rw [decide_eq_false (fun e => hjn e.1)], rfl⟩
          case rest =>
            obtain ⟨rfl, rfl⟩ := hcut
            by_cases hp : j < n ∧ Num.mark (C j) = true
            case neg =>
              rw [decide_eq_false hp]
              have HP := hide hp
              clear hp
              go_wp2_with fail
              go_ret2
              exact ⟨by rw [HE.out, Num.tailE, if_neg HP.out]; rfl, hbel⟩
            rw [decide_eq_true hp]
            have HS := hide (show Num.scan C n i = Num.tailS C n (j + 1) by rw [HE.out, Num.tailE, if_pos hp])
            have hjn := hp.1
            clear hp HE
            go_upto_region 18 with fail
            go_cut [103] (fun v w' => v = .bool (decide (j + 1 < n ∧ Num.sign (C (j + 1)) = true)) ∧ w' = wc)
            case first =>
              by_cases hj1 : j + 1 < n
              · have cj := HC.out (j + 1) hj1
                by_cases hE : C (j + 1) = 43
                · have hbE : (C (j + 1) == 43) = true := beq_iff_eq.2 hE
                  have H1 := hide hE
                  clear hE
                  go_wp2_with fail
                  go_meet
                  exact ⟨by rw [decide_eq_true ⟨hj1, by simp [Num.sign, H1.out]⟩], rfl⟩
                · have hbE : (C (j + 1) == 43) = false := beq_eq_false_iff_ne.2 hE
                  by_cases hE2 : C (j + 1) = 45
                  · have hbE2 : (C (j + 1) == 45) = true := beq_iff_eq.2 hE2
                    have H1 := hide hE2
                    clear hE hE2
                    go_wp2_with fail
                    go_meet
                    exact ⟨by rw [decide_eq_true ⟨hj1, by simp [Num.sign, H1.out]⟩], rfl⟩
                  · have hbE2 : (C (j + 1) == 45) = false := beq_eq_false_iff_ne.2 hE2
                    have H1 := hide hE
                    have H2 := hide hE2
                    clear hE hE2
                    go_wp2_with fail
                    go_meet
                    exact ⟨by rw [decide_eq_false (fun e => by have := e.2; simp [Num.sign, H1.out, H2.out] at this)], rfl⟩
              · go_wp2_with fail
                go_meet
                exact ⟨by rw [decide_eq_false (fun e => hj1 e.1)], rfl⟩
            case rest =>
              obtain ⟨rfl, rfl⟩ := hcut
              go_upto_if 103 with fail
              go_cut [1] (fun v w' => ∃ q : Nat, v = .int .i64 q ∧ q ≤ n ∧ Hid (Num.scan C n i = Num.tailX C n q) ∧ w' = wc)
              case first =>
                by_cases hp : j + 1 < n ∧ Num.sign (C (j + 1)) = true
                · rw [decide_eq_true hp]
                  have HP := hide hp
                  have hpl := hp.1
                  clear hp
                  go_wp2_with fail
                  go_meet
                  case rel => exact ⟨j + 1 + 1, by go_num, by omega, by show _ = _; rw [HS.out, Num.tailS, if_pos HP.out], rfl⟩
                · rw [decide_eq_false hp]
                  have HP := hide hp
                  clear hp
                  go_wp2_with fail
                  go_meet
                  case rel => exact ⟨j + 1, by go_num, by omega, by show _ = _; rw [HS.out, Num.tailS, if_neg HP.out], rfl⟩
              case rest =>
                obtain ⟨q, rfl, hq, HX, rfl⟩ := hcut
                clear HS
                go_wp2_with fail
                refine (digits_any b off n cap w.heap.size C q wc c0 HC.out hq hn).mono ?_
                rintro e w' ⟨rfl, rfl⟩
                have HT := hide (show Num.scan C n i = if q < Num.D C n q then (Num.D C n q, true) else (0, false) by rw [HX.out, Num.tailX])
                generalize Num.D C n q = z at *
                by_cases hz : q < z
                · go_wp2_with fail
                  go_ret2
                  exact ⟨by rw [HT.out, if_pos hz]; rfl, hbel⟩
                · go_wp2_with fail
                  go_ret2
                  exact ⟨by rw [HT.out, if_neg hz]; rfl, hbel⟩
end Go.Proofs.Qxb6602877a
