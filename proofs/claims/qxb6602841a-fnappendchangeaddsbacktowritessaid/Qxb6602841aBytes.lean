import Derived.Test.Qxb6602841aParts
namespace Go.Proofs.Qxb6602841a
open Go.RowKit

set_option maxHeartbeats 2000000 in
theorem bytes17 (x0 x1 x2 : Option Addr) (n0 n1 n2 cap0 cap1 cap2 : Nat) (S0 S1 S2 : Nat → ByteArray) (V0 V1 V2 : Nat → Int) (a b c : Int) (w : World) (h0 : Pairs w x0 n0 S0 V0) (h1 : Pairs w x1 n1 S1 V1) (h2 : Pairs w x2 n2 S2 V2) :
    Calls Try.prog 17 #[.slice x0 n0 cap0, .int .i64 a, .int .i64 b, .int .i64 c, .slice x1 n1 cap1, .slice x2 n2 cap2] w fun e w' =>
      (e = .returned (.bool false) ∨ e = .returned (.bool true) ∧ n0 ≤ 1048576) ∧ w' = w := by
  obtain ⟨hm0, hc0⟩ := h0
  obtain ⟨hm1, hc1⟩ := h1
  obtain ⟨hm2, hc2⟩ := h2
  unfold maxLen at hm0 hc0 hm1 hc1 hm2 hc2
  have HC0 := hide hc0
  have HC1 := hide hc1
  have HC2 := hide hc2
  clear hc0 hc1 hc2
  go_enter Try.func17, Try.ntmps17
  go_wp2
  · go_ret
    exact ⟨.inl rfl, rfl⟩
  go_loop [13, 14] (fun z i => ∃ k : Nat, k ≤ n0 ∧ i = .int .i64 k ∧ ∃ z' : Int, z = .int .i64 z' ∧ 0 ≤ z' ∧ z' ≤ 1048576) (fun _ i => n0 - (intOf i).toNat)
  case atStart => exact ⟨0, Nat.zero_le _, rfl, _, rfl, by omega, by omega⟩
  case round =>
    obtain ⟨k, hk, rfl, z, rfl, hz0, hz1⟩ := hrel
    by_cases hlt : k < n0
    · obtain ⟨b, off, rfl, hcc⟩ := HC0.out (by omega)
      obtain ⟨c1, c2, c3⟩ := hcc k hlt
      clear hcc
      go_wp2
      · go_ret
        exact ⟨.inl rfl, rfl⟩
      · go_ret
        exact ⟨.inl rfl, rfl⟩
      · go_round
        case rel => exact ⟨k + 1, by omega, by go_num, _, rfl, by omega, by omega⟩
        case measure => simp [intOf]; omega
    · clear hk
      go_wp2
      · go_ret
        exact ⟨.inl rfl, rfl⟩
      · go_ret
        exact ⟨.inl rfl, rfl⟩
      go_loop [13, 15] (fun z i => ∃ k : Nat, k ≤ n1 ∧ i = .int .i64 k ∧ ∃ z' : Int, z = .int .i64 z' ∧ 0 ≤ z' ∧ z' ≤ 1048576) (fun _ i => n1 - (intOf i).toNat)
      case atStart => exact ⟨0, Nat.zero_le _, rfl, _, rfl, by omega, by omega⟩
      case round =>
        obtain ⟨k, hk, rfl, z, rfl, hz0, hz1⟩ := hrel
        by_cases hlt : k < n1
        · obtain ⟨b, off, rfl, hcc⟩ := HC1.out (by omega)
          obtain ⟨c1, c2, c3⟩ := hcc k hlt
          clear hcc
          go_wp2
          · go_ret
            exact ⟨.inl rfl, rfl⟩
          · go_ret
            exact ⟨.inl rfl, rfl⟩
          · go_round
            case rel => exact ⟨k + 1, by omega, by go_num, _, rfl, by omega, by omega⟩
            case measure => simp [intOf]; omega
        · clear hk
          go_wp2
          · go_ret
            exact ⟨.inl rfl, rfl⟩
          · go_ret
            exact ⟨.inl rfl, rfl⟩
          go_loop [13, 16] (fun z i => ∃ k : Nat, k ≤ n2 ∧ i = .int .i64 k ∧ ∃ z' : Int, z = .int .i64 z' ∧ 0 ≤ z' ∧ z' ≤ 1048576) (fun _ i => n2 - (intOf i).toNat)
          case atStart => exact ⟨0, Nat.zero_le _, rfl, _, rfl, by omega, by omega⟩
          case round =>
            obtain ⟨k, hk, rfl, z, rfl, hz0, hz1⟩ := hrel
            by_cases hlt : k < n2
            · obtain ⟨b, off, rfl, hcc⟩ := HC2.out (by omega)
              obtain ⟨c1, c2, c3⟩ := hcc k hlt
              clear hcc
              go_wp2
              · go_ret
                exact ⟨.inl rfl, rfl⟩
              · go_ret
                exact ⟨.inl rfl, rfl⟩
              · go_round
                case rel => exact ⟨k + 1, by omega, by go_num, _, rfl, by omega, by omega⟩
                case measure => simp [intOf]; omega
            · clear hk
              go_wp2
              go_ret
              exact ⟨.inr ⟨rfl, by omega⟩, rfl⟩

set_option maxHeartbeats 2000000 in
theorem bytes23 (x0 x1 x2 : Option Addr) (n0 n1 n2 cap0 cap1 cap2 : Nat) (S0 S1 S2 : Nat → ByteArray) (V0 V1 V2 : Nat → Int) (a b c : Int) (w : World) (h0 : Pairs w x0 n0 S0 V0) (h1 : Pairs w x1 n1 S1 V1) (h2 : Pairs w x2 n2 S2 V2) :
    Calls Try.prog 23 #[.slice x0 n0 cap0, .int .i64 a, .int .i64 b, .int .i64 c, .slice x1 n1 cap1, .slice x2 n2 cap2] w fun e w' =>
      (e = .returned (.bool false) ∨ e = .returned (.bool true) ∧ n0 ≤ 1048576) ∧ w' = w := by
  obtain ⟨hm0, hc0⟩ := h0
  obtain ⟨hm1, hc1⟩ := h1
  obtain ⟨hm2, hc2⟩ := h2
  unfold maxLen at hm0 hc0 hm1 hc1 hm2 hc2
  have HC0 := hide hc0
  have HC1 := hide hc1
  have HC2 := hide hc2
  clear hc0 hc1 hc2
  go_enter Try.func23, Try.ntmps23
  go_wp2
  · go_ret
    exact ⟨.inl rfl, rfl⟩
  go_loop [13, 14] (fun z i => ∃ k : Nat, k ≤ n0 ∧ i = .int .i64 k ∧ ∃ z' : Int, z = .int .i64 z' ∧ 0 ≤ z' ∧ z' ≤ 1048576) (fun _ i => n0 - (intOf i).toNat)
  case atStart => exact ⟨0, Nat.zero_le _, rfl, _, rfl, by omega, by omega⟩
  case round =>
    obtain ⟨k, hk, rfl, z, rfl, hz0, hz1⟩ := hrel
    by_cases hlt : k < n0
    · obtain ⟨b, off, rfl, hcc⟩ := HC0.out (by omega)
      obtain ⟨c1, c2, c3⟩ := hcc k hlt
      clear hcc
      go_wp2
      · go_ret
        exact ⟨.inl rfl, rfl⟩
      · go_ret
        exact ⟨.inl rfl, rfl⟩
      · go_round
        case rel => exact ⟨k + 1, by omega, by go_num, _, rfl, by omega, by omega⟩
        case measure => simp [intOf]; omega
    · clear hk
      go_wp2
      · go_ret
        exact ⟨.inl rfl, rfl⟩
      · go_ret
        exact ⟨.inl rfl, rfl⟩
      go_loop [13, 15] (fun z i => ∃ k : Nat, k ≤ n1 ∧ i = .int .i64 k ∧ ∃ z' : Int, z = .int .i64 z' ∧ 0 ≤ z' ∧ z' ≤ 1048576) (fun _ i => n1 - (intOf i).toNat)
      case atStart => exact ⟨0, Nat.zero_le _, rfl, _, rfl, by omega, by omega⟩
      case round =>
        obtain ⟨k, hk, rfl, z, rfl, hz0, hz1⟩ := hrel
        by_cases hlt : k < n1
        · obtain ⟨b, off, rfl, hcc⟩ := HC1.out (by omega)
          obtain ⟨c1, c2, c3⟩ := hcc k hlt
          clear hcc
          go_wp2
          · go_ret
            exact ⟨.inl rfl, rfl⟩
          · go_ret
            exact ⟨.inl rfl, rfl⟩
          · go_round
            case rel => exact ⟨k + 1, by omega, by go_num, _, rfl, by omega, by omega⟩
            case measure => simp [intOf]; omega
        · clear hk
          go_wp2
          · go_ret
            exact ⟨.inl rfl, rfl⟩
          · go_ret
            exact ⟨.inl rfl, rfl⟩
          go_loop [13, 16] (fun z i => ∃ k : Nat, k ≤ n2 ∧ i = .int .i64 k ∧ ∃ z' : Int, z = .int .i64 z' ∧ 0 ≤ z' ∧ z' ≤ 1048576) (fun _ i => n2 - (intOf i).toNat)
          case atStart => exact ⟨0, Nat.zero_le _, rfl, _, rfl, by omega, by omega⟩
          case round =>
            obtain ⟨k, hk, rfl, z, rfl, hz0, hz1⟩ := hrel
            by_cases hlt : k < n2
            · obtain ⟨b, off, rfl, hcc⟩ := HC2.out (by omega)
              obtain ⟨c1, c2, c3⟩ := hcc k hlt
              clear hcc
              go_wp2
              · go_ret
                exact ⟨.inl rfl, rfl⟩
              · go_ret
                exact ⟨.inl rfl, rfl⟩
              · go_round
                case rel => exact ⟨k + 1, by omega, by go_num, _, rfl, by omega, by omega⟩
                case measure => simp [intOf]; omega
            · clear hk
              go_wp2
              go_ret
              exact ⟨.inr ⟨rfl, by omega⟩, rfl⟩
end Go.Proofs.Qxb6602841a
