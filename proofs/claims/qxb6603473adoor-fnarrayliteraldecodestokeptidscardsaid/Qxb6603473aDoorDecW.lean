import Derived.Test.Qxb6603473aDoorRow
import Derived.Test.Qxb6603473aDoorDec
namespace Go.Proofs.Qxb6603473aDoor
open Go.RowKit

/-- What zzDecodeArrayLiteral leaves. -/
def DPost (K : Nat → ByteArray) (m : Nat) (w : World) (e : Ending) (w' : World) : Prop :=
  ∃ x cap, e = .returned (.tuple #[.slice x m cap, .bool true]) ∧ StrsAt w' x m K ∧ Below w.heap.size w w'

/-- The state of the inner loop. -/
def Inner (K : Nat → ByteArray) (j : Nat) (wo : World) (i v c : Value) (wi : World) : Prop :=
  ∃ r, r ≤ (K j).size ∧ BRow wo v (bts (K j) r) wi ∧ ((c = .bool false ∧ i = .int .i64 (spot K j r : Nat)) ∨ (c = .bool true ∧ r = (K j).size ∧ i = .int .i64 (spot K j r + 1 : Nat)))

theorem spot_ge (K : Nat → ByteArray) (j : Nat) : ∀ r, r ≤ spot K j r
  | 0 => Nat.zero_le _
  | r + 1 => by
    have h1 := spot_ge K j r
    have h2 : 1 ≤ (esc1 (bat (K j) r)).length := by unfold esc1; split <;> simp
    rw [spot_succ]
    omega

theorem byte_of {u : ByteArray} {i : Nat} {c : UInt8} (h : bat u i = c) : byteAt u i = (c.toNat : Int) := by rw [bat_int, h]

set_option maxRecDepth 20000 in
set_option maxHeartbeats 4000000 in
theorem decode_at (u : ByteArray) (K : Nat → ByteArray) (m : Nat) (w : World) (hu : IsLit u K m) (hsz : u.size ≤ 1099511627776) : Calls Tryd.prog 8 #[.string u] w (DPost K m w) := by
  have hes := hu.size
  have hel := eb_len K m
  have e0 := fun w => show (Instr.index 9 (.string u) (.int .i64 0)).run Tryd.prog w = .ok (.int .u8 123) w by
    have := index_at u 0 (by omega) .i64 w
    rw [byte_of hu.first] at this
    exact this
  have e1 := fun w => show (Instr.index 9 (.string u) (.int .i64 ((u.size : Int) - 1))).run Tryd.prog w = .ok (.int .u8 125) w by
    have := index_at u (u.size - 1) (by omega) .i64 w
    rw [byte_of hu.last, show ((u.size - 1 : Nat) : Int) = (u.size : Int) - 1 by omega] at this
    exact this
  have HU := hide hu
  clear hu
  by_cases hm : m = 0
  · subst hm
    have h2 : u.size = 2 := by rw [hes]; rfl
    rw [h2] at e1
    replace e1 := fun w => show (Instr.index 9 (.string u) (.int .i64 1)).run Tryd.prog w = .ok (.int .u8 125) w from e1 w
    have hR := SRow.start w K
    clear hes hel
    go_enter Tryd.func8, Tryd.ntmps8
    go_wp2
    go_ret2
    exact ⟨_, _, rfl, ⟨Nat.zero_le _, fun h => by omega⟩, hR.below⟩
  · have h2 : ((u.size : Int) == 2) = false := beq_eq_false_iff_ne.2 (by omega)
    have hlo : m + 2 ≤ u.size := by omega
    clear hes hel
    have hR := SRow.start w K
    obtain ⟨i9, hi, hz0, hz1, hz2⟩ := info_parts info9
    obtain ⟨i5, gi, gz0, gz1, gz2⟩ := info_parts info5
    go_enter Tryd.func8, Tryd.ntmps8
    go_wp2
    go_loopw [4, 5] (fun v i wr => ∃ j : Nat, j < m ∧ i = .int .i64 (pos K j : Nat) ∧ SRow w v K j wr) (fun _ i _ => u.size - (intOf i).toNat)
    case atStart => exact ⟨0, by omega, rfl, hR⟩
    case round =>
      clear hR
      obtain ⟨j, hj, rfl, M⟩ := hrel
      obtain ⟨p1, p2⟩ := HU.out.open' hj
      have hix := index_at u (pos K j) p1 .i64
      rw [byte_of p2] at hix
      replace hix := fun w => show (Instr.index 9 (.string u) (.int .i64 (pos K j : Nat))).run Tryd.prog w = .ok (.int .u8 34) w from hix w
      have HM := hide M
      have hwz := M.below.size
      have hR := BRow.start wr
      have HCL := hide (HU.out.close hj)
      clear M p2
      go_wp2
      obtain ⟨wo, hwo⟩ : ∃ wo : World, wo = wr := ⟨_, rfl⟩
      go_loopw [5, 6, 7] (fun i v c wi => Inner K j wo i v c wi) (fun i _ _ _ => u.size - (intOf i).toNat)
      case atStart => subst hwo; exact ⟨0, Nat.zero_le _, hR, .inl ⟨rfl, by go_num⟩⟩
      case round =>
        subst hwo
        obtain ⟨r, hr, hB, hc⟩ := hrel
        have hwi := hB.below.size
        clear hR hix
        rcases hc with ⟨rfl, rfl⟩ | ⟨rfl, rfl, rfl⟩
        · by_cases hlt : r < (K j).size
          · by_cases hce : bat (K j) r = 34 ∨ bat (K j) r = 92
            · obtain ⟨q1, q2, q3, q4⟩ := HU.out.escaped hj hlt hce
              have hx1 := index_at u (spot K j r) (by omega) .i64
              rw [show byteAt u (spot K j r) = 92 from byte_of q2] at hx1
              rcases hce with hce | hce
              · have hx2 := index_at u (spot K j r + 1) q1 .i64
                rw [show byteAt u (spot K j r + 1) = 34 from by rw [byte_of q3, hce]; rfl, show ((spot K j r + 1 : Nat) : Int) = (spot K j r : Int) + 1 from by omega] at hx2
                have HV := hide (show bts (K j) (r + 1) = bts (K j) r ++ [34] from by rw [bts, byte_of hce]; rfl)
                have hbl := bts_len (K j) r
                have hbl' : (bts (K j) r).length ≤ r := by omega
                have hrl : r ≤ u.size := by have := spot_ge K j r; omega
                have HQ := hide q4
                have hown := hB.own
                have HB := hide hB
                clear hbl hce q2 q3 q4 hB
                generalize spot K j r = q at hx1 hx2 HQ q1 ⊢
                generalize bts (K j) r = xs at hown HB hbl' HV
                go_wp2_with (at_builtin; refine wpList_append_own _ rfl _ _ 32 rfl wo.heap.size 5 i5 _ 1 1 Tryd.underlying32 gi gz0 gz1 gz2 rfl (by decide) _ _ _ rfl (hown.alloc _) ⟨wr.heap.size, 0, none⟩ 1 1 [.int .u8 34] rfl rfl (one_new (by simp) _ _) (one_byte _) (by unfold maxLen; omega) (by omega) (by simp; omega) ?_)
                intro v' w5 hown1 hg1 _
                have M1 := hide (HB.out.step hown1 hg1)
                clear hown1 hg1 hown
                go_wp2
                go_roundw
                case rel => exact ⟨r + 1, by omega, by rw [HV.out]; exact M1.out, .inl ⟨rfl, by rw [HQ.out]; go_num⟩⟩
                case measure => simp [intOf]; omega
              · have hx2 := index_at u (spot K j r + 1) q1 .i64
                rw [show byteAt u (spot K j r + 1) = 92 from by rw [byte_of q3, hce]; rfl, show ((spot K j r + 1 : Nat) : Int) = (spot K j r : Int) + 1 from by omega] at hx2
                have HV := hide (show bts (K j) (r + 1) = bts (K j) r ++ [92] from by rw [bts, byte_of hce]; rfl)
                have hbl := bts_len (K j) r
                have hbl' : (bts (K j) r).length ≤ r := by omega
                have hrl : r ≤ u.size := by have := spot_ge K j r; omega
                have HQ := hide q4
                have hown := hB.own
                have HB := hide hB
                clear hbl hce q2 q3 q4 hB
                generalize spot K j r = q at hx1 hx2 HQ q1 ⊢
                generalize bts (K j) r = xs at hown HB hbl' HV
                go_wp2_with (at_builtin; refine wpList_append_own _ rfl _ _ 32 rfl wo.heap.size 5 i5 _ 1 1 Tryd.underlying32 gi gz0 gz1 gz2 rfl (by decide) _ _ _ rfl (hown.alloc _) ⟨wr.heap.size, 0, none⟩ 1 1 [.int .u8 92] rfl rfl (one_new (by simp) _ _) (one_byte _) (by unfold maxLen; omega) (by omega) (by simp; omega) ?_)
                intro v' w5 hown1 hg1 _
                have M1 := hide (HB.out.step hown1 hg1)
                clear hown1 hg1 hown
                go_wp2
                go_roundw
                case rel => exact ⟨r + 1, by omega, by rw [HV.out]; exact M1.out, .inl ⟨rfl, by rw [HQ.out]; go_num⟩⟩
                case measure => simp [intOf]; omega
            · obtain ⟨q1, q2, q4⟩ := HU.out.plain hj hlt hce
              have hx1 := index_at u (spot K j r) (by omega) .i64
              rw [show byteAt u (spot K j r) = byteAt (K j) r from (byte_of q2).trans (bat_int _ _).symm] at hx1
              have HV := hide (show bts (K j) (r + 1) = bts (K j) r ++ [byteAt (K j) r] from rfl)
              have h34 : (byteAt (K j) r == 34) = false := beq_eq_false_iff_ne.2 fun e => hce (.inl (UInt8.toNat_inj.1 (by have e' : ((bat (K j) r).toNat : Int) = 34 := e; show _ = 34; omega)))
              have h92 : (byteAt (K j) r == 92) = false := beq_eq_false_iff_ne.2 fun e => hce (.inr (UInt8.toNat_inj.1 (by have e' : ((bat (K j) r).toNat : Int) = 92 := e; show _ = 92; omega)))
              have hbl := bts_len (K j) r
              have hbl' : (bts (K j) r).length ≤ r := by omega
              have hrl : r ≤ u.size := by have := spot_ge K j r; omega
              have HQ := hide q4
              have hown := hB.own
              have HB := hide hB
              clear hbl hce q2 q4 hB
              generalize spot K j r = q at hx1 HQ q1 ⊢
              generalize bts (K j) r = xs at hown HB hbl' HV
              generalize byteAt (K j) r = c at hx1 HV h34 h92
              go_wp2_with (at_builtin; refine wpList_append_own _ rfl _ _ 32 rfl wo.heap.size 5 i5 _ 1 1 Tryd.underlying32 gi gz0 gz1 gz2 rfl (by decide) _ _ _ rfl (hown.alloc _) ⟨wr.heap.size, 0, none⟩ 1 1 [.int .u8 c] rfl rfl (one_new (by simp) _ _) (one_byte _) (by unfold maxLen; omega) (by omega) (by simp; omega) ?_)
              intro v' w5 hown1 hg1 _
              have M1 := hide (HB.out.step hown1 hg1)
              clear hown1 hg1 hown
              go_wp2
              go_roundw
              case rel => exact ⟨r + 1, by omega, by rw [HV.out]; exact M1.out, .inl ⟨rfl, by rw [HQ.out]; go_num⟩⟩
              case measure => simp [intOf]; omega
          · obtain rfl : r = (K j).size := by omega
            obtain ⟨q2, q1, _⟩ := HCL.out
            have hx1 := index_at u (spot K j (K j).size) (by omega) .i64
            rw [show byteAt u (spot K j (K j).size) = 34 from byte_of q2] at hx1
            have HB := hide hB
            clear q2 hB
            generalize hq : spot K j (K j).size = q at hx1 q1 ⊢
            have HQ := hide hq
            clear hq
            go_wp2
            go_roundw
            case rel => exact ⟨(K j).size, Nat.le_refl _, HB.out, .inr ⟨rfl, rfl, by rw [HQ.out]; go_num⟩⟩
            case measure => simp [intOf]; omega
        · obtain ⟨_, q1, q2, q3, q4⟩ := HCL.out
          have hx1 := index_at u (spot K j (K j).size + 1) q1 .i64
          have hcv := hB.conv
          rw [bts_all] at hcv
          have HM2 := hide (HM.out.mono hB.below)
          have hown := HM2.out.own
          have hbz := HM2.out.below.size
          have H3 := hide q3
          have H4 := hide q4
          clear hB q3 q4 HM
          have hpq : pos K j < spot K j (K j).size := by unfold spot; omega
          generalize spot K j (K j).size = q at hx1 q1 q2 H3 H4 hpq ⊢
          by_cases hjm : j + 1 = m
          · have hq9 := H3.out hjm
            have hbq : (((q : Int) + 1) == ((u.size : Int) - 1)) = true := beq_iff_eq.2 (by omega)
            rw [if_pos hjm] at q2
            rw [show byteAt u (q + 1) = 125 from byte_of q2, show ((q + 1 : Nat) : Int) = (q : Int) + 1 from by omega] at hx1
            have HJ := hide hjm
            clear hq9 q2 hjm
            go_wp2_with (at_builtin; refine wpList_append_own _ rfl _ _ 22 rfl w.heap.size 9 i9 _ 1 16 Tryd.underlying22 hi hz0 hz1 hz2 rfl (by decide) _ _ _ rfl (hown.alloc _) ⟨wr.heap.size, 0, none⟩ 1 1 [.string (K j)] rfl rfl (one_new (by simp) _ _) (one_str _) (by unfold maxLen; omega) (by omega) (by simp; omega) ?_)
            intro v' w5 hown1 hg1 _
            have M1 := hide (HM2.out.step hown1 hg1)
            clear hown1 hg1 hown
            obtain ⟨x5, cap5, rfl, hA5⟩ := M1.out.strsAt (by unfold maxLen; omega)
            have HA5 := hide hA5
            clear hA5
            go_wp2
            go_ret2
            exact ⟨x5, cap5, by rw [← HJ.out]; rfl, by rw [← HJ.out]; exact HA5.out, M1.out.below⟩
          · rw [if_neg hjm] at q2
            rw [show byteAt u (q + 1) = 44 from byte_of q2, show ((q + 1 : Nat) : Int) = (q : Int) + 1 from by omega] at hx1
            clear q2
            go_wp2_with (at_builtin; refine wpList_append_own _ rfl _ _ 22 rfl w.heap.size 9 i9 _ 1 16 Tryd.underlying22 hi hz0 hz1 hz2 rfl (by decide) _ _ _ rfl (hown.alloc _) ⟨wr.heap.size, 0, none⟩ 1 1 [.string (K j)] rfl rfl (one_new (by simp) _ _) (one_str _) (by unfold maxLen; omega) (by omega) (by simp; omega) ?_)
            intro v' w5 hown1 hg1 _
            have M1 := hide (HM2.out.step hown1 hg1)
            clear hown1 hg1 hown
            go_wp2
            go_roundw
            case rel => exact ⟨j + 1, by omega, by rw [H4.out]; go_num, M1.out⟩
            case measure => simp [intOf]; omega
end Go.Proofs.Qxb6603473aDoor
