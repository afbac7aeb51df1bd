import Derived.Test.Qxb6602841aMatch
namespace Go.Proofs.Qxb6602841a
open Go.RowKit Go.Maps Go.WideMaps

/-- Is some of the first j writes of an item that was not read? -/
def unreadTo (Sr : Nat → ByteArray) (Vr : Nat → Int) (nr : Nat) (Sw : Nat → ByteArray) : Nat → Bool
  | 0 => false
  | j + 1 => unreadTo Sr Vr nr Sw j || !(lastR Sr Vr (Sw j) nr).isSome

theorem unread_none (Sr : Nat → ByteArray) (Vr : Nat → Int) (nr : Nat) (Sw : Nat → ByteArray) : ∀ j, (∀ i, i < j → (lastR Sr Vr (Sw i) nr).isSome = true) → unreadTo Sr Vr nr Sw j = false
  | 0, _ => rfl
  | j + 1, h => by simp only [unreadTo, unread_none Sr Vr nr Sw j (fun i hi => h i (by omega)), h j (by omega)]; rfl

theorem unread_some (Sr : Nat → ByteArray) (Vr : Nat → Int) (nr : Nat) (Sw : Nat → ByteArray) (k : Nat) (hk : (lastR Sr Vr (Sw k) nr).isSome = false) : ∀ j, k < j → unreadTo Sr Vr nr Sw j = true
  | j + 1, h => by
    by_cases e : k = j
    · subst e; simp only [unreadTo, hk]; simp
    · simp only [unreadTo, unread_some Sr Vr nr Sw k hk j (by omega)]; rfl

theorem Scan.unread {Sr : Nat → ByteArray} {Vr : Nat → Int} {nr : Nat} {Sw : Nat → ByteArray} {nw k : Nat} {b : Bool} (h : Scan Sr Vr nr Sw nw k b) : unreadTo Sr Vr nr Sw nw = b := by
  obtain ⟨_, h2, ⟨rfl, rfl⟩ | ⟨h3, h4, rfl⟩⟩ := h
  · exact unread_none _ _ _ _ _ h2
  · exact unread_some _ _ _ _ _ h4 _ h3

theorem Scan.full {Sr : Nat → ByteArray} {Vr : Nat → Int} {nr : Nat} {Sw : Nat → ByteArray} {nw k : Nat} (h : Scan Sr Vr nr Sw nw k false) : k = nw := by
  rcases h.2.2 with ⟨h, _⟩ | ⟨_, _, h⟩
  · exact h
  · cases h

theorem add_back (v r : Int) (h1 : -9223372036854775808 ≤ v) (h2 : v ≤ 9223372036854775807) : wrap64 (r + wrap64 (v - r)) = v := by unfold wrap64; omega

set_option maxHeartbeats 1000000 in
set_option maxRecDepth 100000 in
theorem adds_any (x0 x1 x2 : Option Addr) (n0 n1 n2 cap0 cap1 cap2 : Nat) (S0 S1 S2 : Nat → ByteArray) (V0 V1 V2 : Nat → Int) (a b c : Int) (w : World) (h0 : Pairs w x0 n0 S0 V0) (h1 : Pairs w x1 n1 S1 V1) (h2 : Pairs w x2 n2 S2 V2)
    (hx0 : x0 = none → n0 = 0 ∧ cap0 = 0) (hx1 : x1 = none → n1 = 0 ∧ cap1 = 0) (hx2 : x2 = none → n2 = 0 ∧ cap2 = 0) (wf1 : ∀ i, i < n1 → (Lit.int .i64 (V1 i)).wf = true) (bd2 : ∀ i, i < n2 → -9223372036854775808 ≤ V2 i ∧ V2 i ≤ 9223372036854775807) :
    Calls Try.prog 7 #[.slice x0 n0 cap0, .int .i64 a, .int .i64 b, .int .i64 c, .slice x1 n1 cap1, .slice x2 n2 cap2] w (True6 w) := by
  have hm0 := h0.1
  have hm1 := h1.1
  have hm2 := h2.1
  unfold maxLen at hm0 hm1 hm2
  have W1 := hide wf1
  have W2 := hide bd2
  have X0 := hide hx0
  have X1 := hide hx1
  have X2 := hide hx2
  clear wf1 bd2 hx0 hx1 hx2
  go_enter Try.func7, Try.ntmps7
  go_wp2_with fail
  refine (bytes23 x0 x1 x2 n0 n1 n2 cap0 cap1 cap2 S0 S1 S2 V0 V1 V2 a b c w h0 h1 h2).mono ?_
  rintro e w1 ⟨rfl | ⟨rfl, hn0⟩, rfl⟩
  · go_wp2
    go_ret
    exact ⟨rfl, Below.refl _ _⟩
  go_wp2_with fail
  refine (within_any x0 x1 x2 n0 n1 n2 cap0 cap1 cap2 S0 S1 S2 V0 V1 V2 w1 h0 h1 h2).mono ?_
  rintro e w2 ⟨⟨bb, rfl⟩, rfl⟩
  cases bb
  · go_wp2
    go_ret
    exact ⟨rfl, Below.refl _ _⟩
  by_cases hn1 : n1 ≤ 4096
  case neg =>
    go_wp2_with fail
    go_ret
    exact ⟨rfl, Below.refl _ _⟩
  by_cases hn2 : n2 ≤ 4096
  case neg =>
    go_wp2_with fail
    go_ret
    exact ⟨rfl, Below.refl _ _⟩
  go_wp2_with fail
  refine (copy_all x0 n0 cap0 S0 V0 w2 h0 X0.out hn0).mono ?_
  rintro e wA ⟨y0, rfl, hy0, p0, bA⟩
  replace h1 := h1.mono bA (Nat.le_refl _)
  replace h2 := h2.mono bA (Nat.le_refl _)
  have Y0 : Hid (y0 = none → n0 = 0) := fun e => (X0.out (by rw [e] at hy0; simpa using hy0.symm)).1
  have N0 := hide hy0
  clear h0 hy0
  go_wp2_with fail
  refine (copy_all x1 n1 cap1 S1 V1 wA h1 X1.out (by omega)).mono ?_
  rintro e wB ⟨y1, rfl, hy1, p1, bB⟩
  replace h2 := h2.mono bB (Nat.le_refl _)
  replace p0 := p0.mono bB (Nat.le_refl _)
  have b2 := bA.trans (bB.mono bA.size)
  have Y1 : Hid (y1 = none → n1 = 0) := fun e => (X1.out (by rw [e] at hy1; simpa using hy1.symm)).1
  clear h1 hy1 bA bB
  go_wp2_with fail
  refine (copy_all x2 n2 cap2 S2 V2 wB h2 X2.out (by omega)).mono ?_
  rintro e wC ⟨y2, rfl, hy2, p2, bC⟩
  replace p0 := p0.mono bC (Nat.le_refl _)
  replace p1 := p1.mono bC (Nat.le_refl _)
  have b3 := b2.trans (bC.mono b2.size)
  have Y2 : Hid (y2 = none → n2 = 0) := fun e => (X2.out (by rw [e] at hy2; simpa using hy2.symm)).1
  clear h2 hy2 b2 bC
  go_wp2_with fail
  refine (toIV_all y1 n1 n1 S1 V1 wC p1 (fun e => ⟨Y1.out e, Y1.out e⟩) (by omega)).mono ?_
  rintro e wD ⟨z1, rfl, hz1, q1, o1, bD⟩
  replace p0 := p0.mono bD (Nat.le_refl _)
  replace p1 := p1.mono bD (Nat.le_refl _)
  replace p2 := p2.mono bD (Nat.le_refl _)
  have b4 := b3.trans (bD.mono b3.size)
  clear hz1 o1 b3 bD
  go_wp2_with fail
  refine (toIV_all y2 n2 n2 S2 V2 wD p2 (fun e => ⟨Y2.out e, Y2.out e⟩) (by omega)).mono ?_
  rintro e wE ⟨z2, rfl, hz2, q2, o2, bE⟩
  replace p0 := p0.mono bE (Nat.le_refl _)
  replace p1 := p1.mono bE (Nat.le_refl _)
  replace p2 := p2.mono bE (Nat.le_refl _)
  replace q1 := q1.mono bE (Nat.le_refl _)
  have b5 := b4.trans (bE.mono b4.size)
  clear hz2 o2 b4 bE
  go_wp2_with fail
  have bb := (Below.refl wE.heap.size wE).alloc (Nat.le_refl _) (.cells #[.int .i64 a, .int .i64 b, .int .i64 c, .slice z1 n1 n1, .slice z2 n2 n2] 38)
  have c3 : (wE.alloc (.cells #[.int .i64 a, .int .i64 b, .int .i64 c, .slice z1 n1 n1, .slice z2 n2 n2] 38)).cell? ⟨wE.heap.size, 3, none⟩ = some (.slice z1 n1 n1) := by rw [World.cell?_alloc_at _ _ _ _ rfl]; rfl
  have c4 : (wE.alloc (.cells #[.int .i64 a, .int .i64 b, .int .i64 c, .slice z1 n1 n1, .slice z2 n2 n2] 38)).cell? ⟨wE.heap.size, 4, none⟩ = some (.slice z2 n2 n2) := by rw [World.cell?_alloc_at _ _ _ _ rfl]; rfl
  generalize wE.alloc (.cells #[.int .i64 a, .int .i64 b, .int .i64 c, .slice z1 n1 n1, .slice z2 n2 n2] 38) = wb at *
  replace p0 := p0.mono bb (Nat.le_refl _)
  replace p1 := p1.mono bb (Nat.le_refl _)
  replace p2 := p2.mono bb (Nat.le_refl _)
  replace q1 := q1.mono bb (Nat.le_refl _)
  replace q2 := q2.mono bb (Nat.le_refl _)
  have b6 := b5.trans (bb.mono b5.size)
  generalize wE.heap.size = rb at *
  clear b5 bb
  refine (toIV_all y0 n0 n0 S0 V0 wb p0 (fun e => ⟨Y0.out e, Y0.out e⟩) hn0).mono ?_
  rintro e wF ⟨z0, rfl, hz0, q0, o0, bF⟩
  have Z0 : Hid (z0 = none → n0 = 0) := fun e => Y0.out (by rw [e] at hz0; simpa using hz0.symm)
  have M0 : Hid (z0.isNone = y0.isNone) := hz0
  clear hz0
  go_wp2_with fail
  refine (zzAppend_any wb wF rb z1 z2 n1 n2 n1 n2 S1 S2 V1 V2 z0 n0 S0 V0 bF q1 q2 W1.out c3 c4 o0 q0.small Z0.out hn0 hn2 hn1).mono ?_
  rintro e wG ⟨xg, capg, k, blind, rfl, hscan, pg, hng, bG⟩
  replace p0 := p0.mono bG (Nat.le_refl _)
  replace p1 := p1.mono bG (Nat.le_refl _)
  replace p2 := p2.mono bG (Nat.le_refl _)
  have b7 := b6.trans (bG.mono b6.size)
  rw [M0.out] at hng
  have HS := hide hscan
  have HN := hide hng
  clear b6 bG bF q0 q1 q2 o0 c3 c4 M0 Z0 hscan hng
  go_wp2_with fail
  go_loop [16, 17] (fun ub i => ∃ j : Nat, j ≤ n2 ∧ i = .int .i64 j ∧ ub = .bool (unreadTo S1 V1 n1 S2 j)) (fun _ i => n2 - (intOf i).toNat)
  case atStart => exact ⟨0, Nat.zero_le _, rfl, rfl⟩
  case round =>
    obtain ⟨j, hj, rfl, rfl⟩ := hrel
    by_cases hlt : j < n2
    · obtain ⟨bq, oq, rfl, hcc⟩ := p2.2 (by omega)
      obtain ⟨c1, c2, c3⟩ := hcc j hlt
      clear hcc c2
      go_wp2_with fail
      refine (last_any y1 n1 n1 S1 V1 (S2 j) wG p1).mono ?_
      rintro e w' ⟨rfl, rfl⟩
      generalize hol : lastR S1 V1 (S2 j) n1 = ol
      have HOL := hide hol
      clear hol
      cases ol with
      | none =>
        go_wp2_with fail
        go_round
        case rel => exact ⟨j + 1, by omega, by go_num, by simp [unreadTo, HOL.out]⟩
        case measure => simp [intOf]; omega
      | some r =>
        go_wp2_with fail
        go_round
        case rel => exact ⟨j + 1, by omega, by go_num, by simp [unreadTo, HOL.out]⟩
        case measure => simp [intOf]; omega
    · obtain rfl : j = n2 := by omega
      rw [HS.out.unread]
      cases blind with
      | true =>
        go_wp2_with fail
        go_ret
        exact ⟨rfl, b7⟩
      | false =>
        obtain rfl : k = j := HS.out.full
        go_wp2_with fail
        go_loopw [20] (fun i wr => ∃ t : Nat, t ≤ k ∧ i = .int .i64 t ∧ Below wG.heap.size wG wr) (fun i _ => k - (intOf i).toNat)
        case atStart => exact ⟨0, Nat.zero_le _, rfl, Below.refl _ _⟩
        case round =>
          obtain ⟨t, ht, rfl, hbr⟩ := hrel
          by_cases hlt2 : t < k
          · obtain ⟨b1, o1, rfl, hcc⟩ := (p2.mono hbr (Nat.le_refl _)).2 (by omega)
            obtain ⟨c1, c2, c3⟩ := hcc t (by omega)
            obtain ⟨b2, o2, rfl, hcc2⟩ := (pg.mono hbr (Nat.le_refl _)).2 (by omega)
            obtain ⟨d1, d2, d3⟩ := hcc2 (n0 + t) (by omega)
            rw [cat_right] at d1 d2
            unfold diff at d2
            have l1 := World.block_lt_of_cell? wr _ c1
            have l2 := World.block_lt_of_cell? wr _ d1
            simp only at l1 l2
            have hadd := add_back (V2 t) ((lastR S1 V1 (S2 t) n1).getD 0) (W2.out t hlt2).1 (W2.out t hlt2).2
            generalize hol : lastR S1 V1 (S2 t) n1 = ol at d2 hadd
            have HOL := hide hol
            clear hcc hcc2 c3 d3 hol
            go_wp2_with fail
            refine (last_any y1 n1 n1 S1 V1 (S2 t) _ (p1.mono (hbr.alloc hbr.size _) (Nat.le_refl _))).mono ?_
            rintro e w' ⟨rfl, rfl⟩
            rw [HOL.out]
            generalize ol.getD 0 = r at *
            generalize ol.isSome = rs at *
            clear HOL
            go_wp2_with fail
            go_quiet (fail)
            go_wp2_with fail
            go_roundw
            case rel => exact ⟨t + 1, by omega, by go_num, below_drewN (hbr.alloc hbr.size _) _⟩
            case measure => simp [intOf]; omega
          · obtain rfl : t = k := by omega
            go_wp2_with fail
            go_ret
            exact ⟨rfl, b7.trans (hbr.mono b7.size)⟩
end Go.Proofs.Qxb6602841a
