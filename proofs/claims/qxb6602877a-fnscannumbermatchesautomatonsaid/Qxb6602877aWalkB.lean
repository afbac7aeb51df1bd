import Derived.Test.Qxb6602877aWalkA
namespace Go.Proofs.Qxb6602877a
open Go.RowKit

theorem next_any (s c : Int) (w : World) (h0 : 0 ≤ s) (h8 : s ≤ 8) : Calls Try.prog 27 #[.int .i64 s, .int .u8 c] w fun e w' => e = .returned (.int .i64 (Num.next s c)) ∧ w' = w := by
  have h : s = 0 ∨ s = 1 ∨ s = 2 ∨ s = 3 ∨ s = 4 ∨ s = 5 ∨ s = 6 ∨ s = 7 ∨ s = 8 := by omega
  rcases h with rfl | rfl | rfl | rfl | rfl | rfl | rfl | rfl | rfl
  · exact next0 c w
  · exact next1 c w
  · exact next2 c w
  · exact next3 c w
  · exact next4 c w
  · exact next5 c w
  · exact next6 c w
  · exact next7 c w
  · exact next8 c w

theorem next_range (s c : Int) (h : Num.next s c ≠ 9) : 0 ≤ Num.next s c ∧ Num.next s c ≤ 8 := by
  unfold Num.next at *
  (repeat' split) <;> simp_all

set_option maxHeartbeats 1000000 in
/-- The closure: the end of the run of digits at j. -/
theorem digits_any (b off n cap B : Nat) (C : Nat → Int) (j : Nat) (w : World) (hB : w.cell? ⟨B, 0, none⟩ = some (.slice (some ⟨b, off, none⟩) n cap)) (hc : Bytes w b off n C) (hj : j ≤ n) (hn : n ≤ 1048576) :
    Calls Try.prog 36 #[.int .i64 j, .pointer (some ⟨B, 0, none⟩)] w fun e w' => e = .returned (.int .i64 (Num.D C n j)) ∧ w' = w := by
  have HC := hide hc
  clear hc
  go_enter Try.func36, Try.ntmps36
  go_wp2
  go_loop [0] (fun i => ∃ k : Nat, k ≤ n ∧ i = .int .i64 k ∧ Hid (Num.D C n j = Num.D C n k)) (fun i => n - (intOf i).toNat)
  case atStart => exact ⟨j, hj, rfl, rfl⟩
  case round =>
    obtain ⟨k, hk, rfl, HD⟩ := hrel
    by_cases hlt : k < n
    · have c1 := HC.out k hlt
      have hs := Num.D_step (C := C) hlt
      have HS := hide hs
      clear hs
      by_cases h1 : 48 ≤ C k
      · by_cases h2 : C k ≤ 57
        · go_wp2
          go_round
          case rel => exact ⟨k + 1, by omega, by go_num, by rw [HD.out, HS.out, if_pos (by simp [Num.dgt, h1, h2])]; rfl⟩
          case measure => simp [intOf]; omega
        · go_wp2
          go_ret
          exact ⟨ret_int (by rw [HD.out, HS.out, if_neg (by simp [Num.dgt]; omega)]), rfl⟩
      · go_wp2
        go_ret
        exact ⟨ret_int (by rw [HD.out, HS.out, if_neg (by simp [Num.dgt]; omega)]), rfl⟩
    · obtain rfl : k = n := by omega
      go_wp2
      go_ret
      exact ⟨ret_int (by rw [HD.out, Num.D_end]), rfl⟩

set_option maxHeartbeats 1000000 in
theorem model_any (b off n cap : Nat) (C : Nat → Int) (i : Nat) (w : World) (hc : Bytes w b off n C) (hi : i < n) (hn : n ≤ 1048576) :
    Calls Try.prog 13 #[.slice (some ⟨b, off, none⟩) n cap, .int .i64 i] w fun e w' => e = .returned (.tuple #[.int .i64 ((Num.R C n 0 i).1 : Int), .bool (Num.R C n 0 i).2]) ∧ w' = w := by
  have HC := hide hc
  clear hc
  go_enter Try.func13, Try.ntmps13
  go_upto_block 0 with fail
  go_cut [6, 7] (fun s j w' => ∃ (s' : Int) (k : Nat), s = .int .i64 s' ∧ j = .int .i64 k ∧ Hid (Num.R C n 0 i = Num.fin (s', k)) ∧ w' = w)
  case first =>
    go_wp2_with fail
    go_loop [6, 7] (fun s j => ∃ (s' : Int) (k : Nat), s = .int .i64 s' ∧ 0 ≤ s' ∧ s' ≤ 8 ∧ j = .int .i64 k ∧ k ≤ n ∧ Hid (Num.R C n 0 i = Num.R C n s' k)) (fun _ j => n - (intOf j).toNat)
    case atStart => exact ⟨0, i, rfl, by omega, by omega, rfl, by omega, rfl⟩
    case round =>
      obtain ⟨s, k, rfl, hs0, hs8, rfl, hk, HR⟩ := hrel
      by_cases hlt : k < n
      · have c1 := HC.out k hlt
        have HS := hide (Num.R_step (C := C) s hlt)
        have HN := hide (next_range s (C k))
        go_wp2_with fail
        refine (next_any s (C k) w hs0 hs8).mono ?_
        rintro e w' ⟨rfl, rfl⟩
        generalize hnx : Num.next s (C k) = t at HS HN
        clear hnx
        by_cases h9 : t = 9
        · have hb : (t == 9) = true := beq_iff_eq.2 h9
          have H9 := hide h9
          clear h9
          go_wp2_with fail
          go_meet
          case rel => exact ⟨s, k, rfl, rfl, by show _ = _; rw [HR.out, HS.out, if_pos H9.out], rfl⟩
        · have hb : (t == 9) = false := beq_eq_false_iff_ne.2 h9
          have H9 := hide h9
          clear h9
          go_wp2_with fail
          go_round
          case rel => exact ⟨t, k + 1, rfl, (HN.out H9.out).1, (HN.out H9.out).2, by go_num, by omega, by show _ = _; rw [HR.out, HS.out, if_neg H9.out]⟩
          case measure => simp [intOf]; omega
      · obtain rfl : k = n := by omega
        go_wp2_with fail
        go_meet
        case rel => exact ⟨s, k, rfl, rfl, by show _ = _; rw [HR.out, Num.R_end], rfl⟩
  case rest =>
    obtain ⟨s, k, rfl, rfl, HR, rfl⟩ := hcut
    go_wp2_with fail
    refine (acc_any s _).mono ?_
    rintro e w' ⟨rfl, rfl⟩
    cases ha : Num.acc s with
    | true =>
      have HA := hide ha
      clear ha
      go_wp2_with fail
      go_ret2
      exact ⟨by rw [HR.out]; simp [Num.fin, HA.out], rfl⟩
    | false =>
      have HA := hide ha
      clear ha
      go_wp2_with fail
      go_ret2
      exact ⟨by rw [HR.out]; simp [Num.fin, HA.out], rfl⟩
end Go.Proofs.Qxb6602877a
