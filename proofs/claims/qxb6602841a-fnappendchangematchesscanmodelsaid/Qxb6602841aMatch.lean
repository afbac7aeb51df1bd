import Derived.Test.Qxb6602841aMid
import Derived.Test.Qxb6602841aBytes
import Derived.Deep.QuietTactic
import Derived.BigQuiet
import Derived.Deep.CutBlock
import Derived.Deep.DeepCutAuto
namespace Go.Proofs.Qxb6602841a
open Go.RowKit Go.Maps Go.WideMaps

theorem cat_right {α : Type} (n : Nat) (f g : Nat → α) (j : Nat) : cat n f g (n + j) = g j := by unfold cat; rw [if_neg (by omega), Nat.add_sub_cancel_left]

def True6 (w : World) (e : Ending) (w' : World) : Prop := e = .returned (.bool true) ∧ Below w.heap.size w w'

set_option maxHeartbeats 1000000 in
set_option maxRecDepth 100000 in
theorem match_any (x0 x1 x2 : Option Addr) (n0 n1 n2 cap0 cap1 cap2 : Nat) (S0 S1 S2 : Nat → ByteArray) (V0 V1 V2 : Nat → Int) (a b c : Int) (w : World) (h0 : Pairs w x0 n0 S0 V0) (h1 : Pairs w x1 n1 S1 V1) (h2 : Pairs w x2 n2 S2 V2)
    (hx0 : x0 = none → n0 = 0 ∧ cap0 = 0) (hx1 : x1 = none → n1 = 0 ∧ cap1 = 0) (hx2 : x2 = none → n2 = 0 ∧ cap2 = 0) (wf1 : ∀ i, i < n1 → (Lit.int .i64 (V1 i)).wf = true) :
    Calls Try.prog 6 #[.slice x0 n0 cap0, .int .i64 a, .int .i64 b, .int .i64 c, .slice x1 n1 cap1, .slice x2 n2 cap2] w (True6 w) := by
  have hm0 := h0.1
  have hm1 := h1.1
  have hm2 := h2.1
  unfold maxLen at hm0 hm1 hm2
  have W1 := hide wf1
  have X0 := hide hx0
  have X1 := hide hx1
  have X2 := hide hx2
  clear wf1 hx0 hx1 hx2
  go_enter Try.func6, Try.ntmps6
  go_wp2_with fail
  refine (bytes17 x0 x1 x2 n0 n1 n2 cap0 cap1 cap2 S0 S1 S2 V0 V1 V2 a b c w h0 h1 h2).mono ?_
  rintro e w1 ⟨rfl | ⟨rfl, hn0⟩, rfl⟩
  · go_wp2
    go_ret
    exact ⟨rfl, Below.refl _ _⟩
  go_wp2_with fail
  refine (within_any x0 x1 x2 n0 n1 n2 cap0 cap1 cap2 S0 S1 S2 V0 V1 V2 w1 h0 h1 h2).mono ?_
  rintro e w2 ⟨⟨bb, rfl⟩, rfl⟩
  cases bb
  · go_wp2
    go_ret
    exact ⟨rfl, Below.refl _ _⟩
  by_cases hn1 : n1 ≤ 4096
  case neg =>
    go_wp2_with fail
    go_ret
    exact ⟨rfl, Below.refl _ _⟩
  by_cases hn2 : n2 ≤ 4096
  case neg =>
    go_wp2_with fail
    go_ret
    exact ⟨rfl, Below.refl _ _⟩
  go_wp2_with fail
  refine (copy_all x0 n0 cap0 S0 V0 w2 h0 X0.out hn0).mono ?_
  rintro e wA ⟨y0, rfl, hy0, p0, bA⟩
  replace h1 := h1.mono bA (Nat.le_refl _)
  replace h2 := h2.mono bA (Nat.le_refl _)
  have Y0 : Hid (y0 = none → n0 = 0) := fun e => (X0.out (by rw [e] at hy0; simpa using hy0.symm)).1
  have N0 := hide hy0
  clear h0 hy0
  go_wp2_with fail
  refine (copy_all x1 n1 cap1 S1 V1 wA h1 X1.out (by omega)).mono ?_
  rintro e wB ⟨y1, rfl, hy1, p1, bB⟩
  replace h2 := h2.mono bB (Nat.le_refl _)
  replace p0 := p0.mono bB (Nat.le_refl _)
  have b2 := bA.trans (bB.mono bA.size)
  have Y1 : Hid (y1 = none → n1 = 0) := fun e => (X1.out (by rw [e] at hy1; simpa using hy1.symm)).1
  clear h1 hy1 bA bB
  go_wp2_with fail
  refine (copy_all x2 n2 cap2 S2 V2 wB h2 X2.out (by omega)).mono ?_
  rintro e wC ⟨y2, rfl, hy2, p2, bC⟩
  replace p0 := p0.mono bC (Nat.le_refl _)
  replace p1 := p1.mono bC (Nat.le_refl _)
  have b3 := b2.trans (bC.mono b2.size)
  have Y2 : Hid (y2 = none → n2 = 0) := fun e => (X2.out (by rw [e] at hy2; simpa using hy2.symm)).1
  clear h2 hy2 b2 bC
  go_wp2_with fail
  refine (toIV_all y1 n1 n1 S1 V1 wC p1 (fun e => ⟨Y1.out e, Y1.out e⟩) (by omega)).mono ?_
  rintro e wD ⟨z1, rfl, hz1, q1, o1, bD⟩
  replace p0 := p0.mono bD (Nat.le_refl _)
  replace p1 := p1.mono bD (Nat.le_refl _)
  replace p2 := p2.mono bD (Nat.le_refl _)
  have b4 := b3.trans (bD.mono b3.size)
  clear hz1 o1 b3 bD
  go_wp2_with fail
  refine (toIV_all y2 n2 n2 S2 V2 wD p2 (fun e => ⟨Y2.out e, Y2.out e⟩) (by omega)).mono ?_
  rintro e wE ⟨z2, rfl, hz2, q2, o2, bE⟩
  replace p0 := p0.mono bE (Nat.le_refl _)
  replace p1 := p1.mono bE (Nat.le_refl _)
  replace p2 := p2.mono bE (Nat.le_refl _)
  replace q1 := q1.mono bE (Nat.le_refl _)
  have b5 := b4.trans (bE.mono b4.size)
  clear hz2 o2 b4 bE
  go_wp2_with fail
  have bb := (Below.refl wE.heap.size wE).alloc (Nat.le_refl _) (.cells #[.int .i64 a, .int .i64 b, .int .i64 c, .slice z1 n1 n1, .slice z2 n2 n2] 38)
  have c3 : (wE.alloc (.cells #[.int .i64 a, .int .i64 b, .int .i64 c, .slice z1 n1 n1, .slice z2 n2 n2] 38)).cell? ⟨wE.heap.size, 3, none⟩ = some (.slice z1 n1 n1) := by rw [World.cell?_alloc_at _ _ _ _ rfl]; rfl
  have c4 : (wE.alloc (.cells #[.int .i64 a, .int .i64 b, .int .i64 c, .slice z1 n1 n1, .slice z2 n2 n2] 38)).cell? ⟨wE.heap.size, 4, none⟩ = some (.slice z2 n2 n2) := by rw [World.cell?_alloc_at _ _ _ _ rfl]; rfl
  generalize wE.alloc (.cells #[.int .i64 a, .int .i64 b, .int .i64 c, .slice z1 n1 n1, .slice z2 n2 n2] 38) = wb at *
  replace p0 := p0.mono bb (Nat.le_refl _)
  replace p1 := p1.mono bb (Nat.le_refl _)
  replace p2 := p2.mono bb (Nat.le_refl _)
  replace q1 := q1.mono bb (Nat.le_refl _)
  replace q2 := q2.mono bb (Nat.le_refl _)
  have b6 := b5.trans (bb.mono b5.size)
  generalize wE.heap.size = rb at *
  clear b5 bb
  refine (toIV_all y0 n0 n0 S0 V0 wb p0 (fun e => ⟨Y0.out e, Y0.out e⟩) hn0).mono ?_
  rintro e wF ⟨z0, rfl, hz0, q0, o0, bF⟩
  have Z0 : Hid (z0 = none → n0 = 0) := fun e => Y0.out (by rw [e] at hz0; simpa using hz0.symm)
  have M0 : Hid (z0.isNone = y0.isNone) := hz0
  clear hz0
  go_wp2_with fail
  refine (zzAppend_any wb wF rb z1 z2 n1 n2 n1 n2 S1 S2 V1 V2 z0 n0 S0 V0 bF q1 q2 W1.out c3 c4 o0 q0.small Z0.out hn0 hn2 hn1).mono ?_
  rintro e wG ⟨xg, capg, k, blind, rfl, hscan, pg, hng, bG⟩
  replace p0 := p0.mono bG (Nat.le_refl _)
  replace p1 := p1.mono bG (Nat.le_refl _)
  replace p2 := p2.mono bG (Nat.le_refl _)
  have b7 := b6.trans (bG.mono b6.size)
  rw [M0.out] at hng
  have HS := hide hscan
  have HN := hide hng
  clear b6 bG bF q0 q1 q2 o0 c3 c4 M0 Z0 hscan hng
  go_upto_block 0 with fail
  go_cut [16, 17] (fun kk wbl w' => ∃ (j : Nat) (bl : Bool), kk = .int .i64 j ∧ wbl = .bool bl ∧ Hid (Scan S1 V1 n1 S2 n2 j bl) ∧ w' = wG)
  case first =>
    go_wp2_with fail
    go_loop [16, 17] (fun kk wbl => ∃ j : Nat, j ≤ n2 ∧ kk = .int .i64 j ∧ wbl = .bool false ∧ Hid (∀ i, i < j → (lastR S1 V1 (S2 i) n1).isSome = true)) (fun kk _ => n2 - (intOf kk).toNat)
    case atStart => exact ⟨0, Nat.zero_le _, rfl, rfl, fun i hi => by omega⟩
    case round =>
      obtain ⟨j, hj, rfl, rfl, HG⟩ := hrel
      by_cases hlt : j < n2
      · obtain ⟨bq, oq, rfl, hcc⟩ := p2.2 (by omega)
        obtain ⟨c1, c2, c3⟩ := hcc j hlt
        clear hcc c2
        go_wp2_with fail
        refine (last_any y1 n1 n1 S1 V1 (S2 j) wG p1).mono ?_
        rintro e w' ⟨rfl, rfl⟩
        generalize hol : lastR S1 V1 (S2 j) n1 = ol
        have HOL := hide hol
        clear hol
        cases ol with
        | none =>
          go_wp2_with fail
          go_meet
          case rel => exact ⟨j, true, rfl, rfl, ⟨hj, HG.out, .inr ⟨hlt, by rw [HOL.out]; rfl, rfl⟩⟩, rfl⟩
        | some r =>
          go_wp2_with fail
          go_round
          case rel => exact ⟨j + 1, by omega, by go_num, rfl, fun i hi => by
            by_cases e : i = j
            · subst e; rw [HOL.out]; rfl
            · exact HG.out i (by omega)⟩
          case measure => simp [intOf]; omega
      · obtain rfl : j = n2 := by omega
        go_wp2_with fail
        go_meet
        case rel => exact ⟨j, false, rfl, rfl, ⟨Nat.le_refl _, HG.out, .inl ⟨rfl, rfl⟩⟩, rfl⟩
  case rest =>
    obtain ⟨j, bl, rfl, rfl, HS', rfl⟩ := hcut
    obtain ⟨rfl, rfl⟩ := HS.out.uniq HS'.out
    have hk := HS.out.1
    have hq1 := fun w => Lib.run_eql_slice_nil (P := Try.prog) w 35 45 xg (n0 + k) capg 0 0 Try.underlying35
    have hq2 := fun w => Lib.run_eql_slice_nil (P := Try.prog) w 30 44 y0 n0 n0 0 0 Try.underlying30
    go_upto_region 21 with fail
    go_cut [97] (fun v w' => v = .bool false ∧ w' = wc)
    case first =>
      have hng := HN.out
      cases hy : y0.isNone with
      | false =>
        rw [hy] at hng
        have hng' : xg.isNone = false := by simpa using hng
        clear hng
        go_wp2_with fail
        go_meet
        exact ⟨rfl, rfl⟩
      | true =>
        rw [hy] at hng
        by_cases hk0 : k = 0
        · have hng' : xg.isNone = true := by simpa [hk0] using hng
          have hk' : ((k : Int) == 0) = true := beq_iff_eq.2 (by omega)
          clear hng hk0
          go_wp2_with fail
          go_meet
          exact ⟨rfl, rfl⟩
        · have hng' : xg.isNone = false := by rw [hng]; simp [hk0]
          have hk' : ((k : Int) == 0) = false := beq_eq_false_iff_ne.2 (by omega)
          clear hng hk0
          go_wp2_with fail
          go_meet
          exact ⟨rfl, rfl⟩
    case rest =>
      obtain ⟨rfl, rfl⟩ := hcut
      clear hq1 hq2
      go_wp2_with fail
      go_loopw [20] (fun i wr => ∃ t : Nat, t ≤ n0 ∧ i = .int .i64 t ∧ Below wc.heap.size wc wr) (fun i _ => n0 - (intOf i).toNat)
      case atStart => exact ⟨0, Nat.zero_le _, rfl, Below.refl _ _⟩
      case round =>
        obtain ⟨t, ht, rfl, hbr⟩ := hrel
        by_cases hlt : t < n0
        · obtain ⟨b1, o1, rfl, hcc⟩ := (p0.mono hbr (Nat.le_refl _)).2 (by omega)
          obtain ⟨c1, c2, c3⟩ := hcc t hlt
          obtain ⟨b2, o2, rfl, hcc2⟩ := (pg.mono hbr (Nat.le_refl _)).2 (by omega)
          obtain ⟨d1, d2, d3⟩ := hcc2 t (by omega)
          simp only [cat, if_pos hlt] at d1 d2
          clear hcc hcc2 c3 d3
          go_wp2_with fail
          go_quiet (fail)
          go_wp2_with fail
          go_roundw
          case rel => exact ⟨t + 1, by omega, by go_num, below_drewN hbr _⟩
          case measure => simp [intOf]; omega
        · obtain rfl : t = n0 := by omega
          go_wp2_with fail
          obtain ⟨wo, rfl⟩ : ∃ wo : World, wo = wr := ⟨_, rfl⟩
          go_loopw [21] (fun i wr => ∃ j : Nat, j ≤ k ∧ i = .int .i64 j ∧ Below wc.heap.size wc wr) (fun i _ => k - (intOf i).toNat)
          case atStart => exact ⟨0, Nat.zero_le _, rfl, hbr⟩
          case round =>
            clear hbr
            obtain ⟨j, hj, rfl, hbr⟩ := hrel
            by_cases hlt : j < k
            · obtain ⟨b1, o1, rfl, hcc⟩ := (p2.mono hbr (Nat.le_refl _)).2 (by omega)
              obtain ⟨c1, c2, c3⟩ := hcc j (by omega)
              obtain ⟨b2, o2, rfl, hcc2⟩ := (pg.mono hbr (Nat.le_refl _)).2 (by omega)
              obtain ⟨d1, d2, d3⟩ := hcc2 (t + j) (by omega)
              rw [cat_right] at d1 d2
              unfold diff at d2
              have l1 := World.block_lt_of_cell? wr _ c1
              have l2 := World.block_lt_of_cell? wr _ d1
              simp only at l1 l2
              generalize hol : lastR S1 V1 (S2 j) n1 = ol at d2
              have HOL := hide hol
              clear hcc hcc2 c3 d3 hol
              go_wp2_with fail
              refine (last_any y1 n1 n1 S1 V1 (S2 j) wr (p1.mono hbr (Nat.le_refl _))).mono ?_
              rintro e w' ⟨rfl, rfl⟩
              rw [HOL.out]
              generalize ol.getD 0 = r at *
              generalize ol.isSome = rs at *
              clear HOL
              go_wp2_with fail
              go_quiet (fail)
              go_wp2_with fail
              go_roundw
              case rel => exact ⟨j + 1, by omega, by go_num, below_drewN (hbr.alloc hbr.size _) _⟩
              case measure => simp [intOf]; omega
            · obtain rfl : j = k := by omega
              go_wp2_with fail
              go_ret
              exact ⟨rfl, b7.trans (hbr.mono b7.size)⟩
end Go.Proofs.Qxb6602841a
