import Derived.Test.Qxb6603473aMatch
namespace Go.Proofs.Qxb6603473a
namespace Menu
open Go.RowKit

set_option maxHeartbeats 400000 in
theorem zztree_any (x : Addr) (n cap : Nat) (F : Nat → Entry) (w : World) (h : PermsAt w (some x) n F) (hn : n ≤ 65536) (hsm : ∀ i, i < n → (F i).small) (hdc : ∀ i j, i < n → j < n → i ≠ j → (F i).code ≠ (F j).code) :
    Calls Try.prog 12 #[.slice (some x) n cap] w (TreePost n F w) := by
  go_enter Try.func12, Try.ntmps12
  go_wp2_with fail
  refine (tree_any x n cap F w h hn hsm hdc).mono ?_
  rintro e w' ⟨MB, CV, vr, D, rfl, hT⟩
  go_wp2_with fail
  go_ret
  exact ⟨MB, CV, vr, D, rfl, hT⟩

theorem match_root {wt : World} {F : Nat → Entry} {n : Nat} {MB : Nat → Nat} {CV : Nat → Value} {xh : Option Addr} (hF : Forest wt F n MB CV) (hE : Entries wt xh n F) (hn : n ≤ 65536) (hdc : ∀ i j, i < n → j < n → i ≠ j → (F i).code ≠ (F j).code)
    {vr : Value} (hv : ListAt wt MB vr (upTo (rootB F) n)) : Calls Try.prog 14 #[vr, .slice xh n n, .string ⟨#[]⟩, .bool true, .int .i64 ((n : Int) + 1)] wt (True14 wt) := by
  have := match_all wt F n MB CV xh hF hE hn hdc (n + 1) 0 (by omega) (Nat.zero_le _) vr true ⟨#[]⟩ (rootB F) wt (Below.refl _ _) hv (fun i hi => by simp [rootB]) (fun i hi hp => ⟨hi, hp⟩)
  exact this

set_option maxHeartbeats 4000000 in
set_option maxRecDepth 100000 in
theorem law4 (x : Option Addr) (n cap : Nat) (F : Nat → Entry) (w : World) (h : Entries w x n F) (hx : x = none → n = 0 ∧ cap = 0) : Calls Try.prog 4 #[.slice x n cap] w (True14 w) := by
  have HX := hide hx
  have HE := hide h
  have hm := h.1
  unfold maxLen at hm
  clear hx h
  go_enter Try.func4, Try.ntmps4
  go_wp2_with fail
  refine (bytes10 x n cap F w HE.out).mono ?_
  rintro e w' ⟨rfl | rfl, rfl⟩
  case inr =>
    go_wp2_with fail
    go_ret
    exact ⟨rfl, Below.refl _ _⟩
  by_cases hn : n ≤ 65536
  case neg =>
    go_wp2_with fail
    go_ret
    exact ⟨rfl, Below.refl _ _⟩
  by_cases hn2 : n ≤ 8192
  case neg =>
    go_wp2_with fail
    go_ret
    exact ⟨rfl, Below.refl _ _⟩
  clear hm
  go_wp2_with fail
  go_loopw [3, 4] (fun t i wr => ∃ k : Nat, k ≤ n ∧ i = .int .i64 k ∧ (∃ z : Int, t = .int .i64 z) ∧ Below w'.heap.size w' wr) (fun _ i _ => n - (intOf i).toNat)
  case atStart => exact ⟨0, Nat.zero_le _, rfl, ⟨_, rfl⟩, Below.refl _ _⟩
  case round =>
    obtain ⟨k, hk, rfl, ⟨z, rfl⟩, hb⟩ := hrel
    by_cases hlt : k < n
    · obtain ⟨b, off, rfl, hcc⟩ := HE.out.2 (by omega)
      obtain ⟨h0, h1, h2, h3, h4, h5, h6, h7⟩ := (hcc k hlt).1.mono hb (hcc k hlt).1.lt
      generalize F k = f at h0 h1 h2 h3 h4 h5 h6 h7
      obtain ⟨f0, f1, f2, f3, f4, f5, f6, f7⟩ := f
      simp only at h0 h1 h2 h3 h4 h5 h6 h7
      clear hcc
      go_wp2_with fail
      go_quiet (fail)
      go_wp2_with fail
      · go_ret
        exact ⟨rfl, below_drewN hb _⟩
      · go_roundw
        case rel => exact ⟨k + 1, by omega, by go_num, ⟨_, rfl⟩, below_drewN hb _⟩
        case measure => simp [intOf]; omega
    · obtain rfl : k = n := by omega
      clear hk hlt
      go_wp2_with fail
      obtain ⟨wo, rfl⟩ : ∃ wo : World, wo = wr := ⟨_, rfl⟩
      go_loopw [5, 6] (fun i _ wr => ∃ a : Nat, a ≤ k ∧ i = .int .i64 a ∧ Hid (∀ i, i < a → ∀ j, i < j → j < k → (F i).code ≠ (F j).code) ∧ Below w'.heap.size w' wr) (fun i _ _ => k - (intOf i).toNat)
      case atStart => exact ⟨0, Nat.zero_le _, rfl, fun i hi => by omega, hb⟩
      case round =>
        clear hb
        obtain ⟨a, ha, rfl, HV, hb⟩ := hrel
        by_cases hlt : a < k
        · obtain ⟨b, off, rfl, hcc⟩ := HE.out.2 (by omega)
          have HCC := hide hcc
          clear hcc
          go_wp2_with fail
          obtain ⟨wo2, rfl⟩ : ∃ wo2 : World, wo2 = wr := ⟨_, rfl⟩
          go_loopw [6] (fun i wr => ∃ c : Nat, a < c ∧ c ≤ k ∧ i = .int .i64 c ∧ Hid (∀ j, a < j → j < c → (F a).code ≠ (F j).code) ∧ Below w'.heap.size w' wr) (fun i _ => k - (intOf i).toNat)
          case atStart => exact ⟨a + 1, by omega, by omega, by go_num, fun j h1 h2 => by omega, hb⟩
          case round =>
            clear hb
            obtain ⟨c, hac, hck, rfl, HW, hb⟩ := hrel
            by_cases hcl : c < k
            · have e1 := ((HCC.out a hlt).1.mono hb (HCC.out a hlt).1.lt).1
              have e2 := ((HCC.out c hcl).1.mono hb (HCC.out c hcl).1.lt).1
              cases hq : ((F a).code.toList == (F c).code.toList) with
              | true =>
                generalize (F a).code = sa at e1 hq
                generalize (F c).code = sc at e2 hq
                go_wp2_with fail
                go_quiet (fail)
                go_wp2_with fail
                go_ret
                exact ⟨rfl, below_drewN hb _⟩
              | false =>
                have HW1 : Hid (∀ j, a < j → j < c + 1 → (F a).code ≠ (F j).code) := fun j h1 h2 => by
                  by_cases e : j = c
                  · rw [e]
                    intro e3
                    rw [e3] at hq
                    simp at hq
                  · exact HW.out j h1 (by omega)
                clear HW
                generalize (F a).code = sa at e1 hq HW1
                generalize (F c).code = sc at e2 hq
                go_wp2_with fail
                go_quiet (fail)
                go_wp2_with fail
                go_roundw
                case rel => exact ⟨c + 1, by omega, by omega, by go_num, HW1, below_drewN hb _⟩
                case measure => simp [intOf]; omega
            · obtain rfl : c = k := by omega
              go_wp2_with fail
              go_roundw
              case rel => exact ⟨a + 1, by omega, by go_num, fun i hi j h1 h2 => by
                by_cases e : i = a
                · rw [e] at h1 ⊢; exact HW.out j h1 h2
                · exact HV.out i (by omega) j h1 h2, hb⟩
              case measure => simp [intOf]; omega
        · obtain rfl : a = k := by omega
          obtain ⟨n, rfl⟩ : ∃ n, n = a := ⟨_, rfl⟩
          have HDC : Hid (∀ i j, i < n → j < n → i ≠ j → (F i).code ≠ (F j).code) := fun i j hi hj hne => by
            rcases Nat.lt_or_gt_of_ne hne with h | h
            · exact HV.out i hi j h hj
            · exact fun e => HV.out j hj i h hi e.symm
          have HSM := hide HE.out.small
          clear hlt ha HV
          go_wp2_with fail
          refine (clone_all x n cap F wr (HE.out.mono hb (Nat.le_refl _)) HX.out hn).mono ?_
          rintro e w1 ⟨x', rfl, hE1, hb1⟩
          have hbb1 := hb.trans (hb1.mono hb.size)
          clear HE hb hb1
          go_wp2_with fail
          refine (perms_any x' n n F w1 hE1 hn).mono ?_
          rintro e w2 ⟨x2, cp2, rfl, hP2, hb2⟩
          have hbb2 := hbb1.trans (hb2.mono hbb1.size)
          have hE2 := hE1.mono hb2 (Nat.le_refl _)
          clear hE1 hbb1 hb2
          go_wp2_with fail
          refine (zztree_any x2 n cp2 F w2 hP2 hn HSM.out HDC.out).mono ?_
          rintro e w3 ⟨MB, CV, vr, D, rfl, hT⟩
          obtain ⟨hF, hR⟩ := Forest.of hT
          have hbb3 := hbb2.trans (hT.below.mono hbb2.size)
          have hE3 := hE2.mono hT.below (Nat.le_refl _)
          have HMR := hide (match_root hF hE3 hn HDC.out hR)
          clear hT hF hR hE2 hE3 hP2 hbb2
          go_wp2_with fail
          refine HMR.out.mono ?_
          rintro e w4 ⟨rfl, hb4⟩
          go_wp2_with fail
          go_ret
          exact ⟨rfl, hbb3.trans (hb4.mono hbb3.size)⟩
end Menu
end Go.Proofs.Qxb6603473a
