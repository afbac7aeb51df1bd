import Derived.Test.Qxb6603473aDoorPg
namespace Go.Proofs.Qxb6603473aDoor
open Go.RowKit

def hexb (c : Int) : Bool := (decide (48 ≤ c) && decide (c ≤ 57)) || (decide (97 ≤ c) && decide (c ≤ 102))
def HexTo (s : ByteArray) (k : Nat) : Prop := ∀ i, i < k → hexb (byteAt s i) = true

def HPost (s : ByteArray) (w : World) (e : Ending) (w' : World) : Prop :=
  ((e = .returned (.bool true) ∧ HexTo s s.size) ∨ (e = .returned (.bool false) ∧ ∃ i, i < s.size ∧ hexb (byteAt s i) = false)) ∧ w' = w

set_option maxHeartbeats 1000000 in
theorem hex_at (s : ByteArray) (hs : s.size ≤ 1048576) (w : World) : Calls Tryd.prog 19 #[.string s] w (HPost s w) := by
  go_enter Tryd.func19, Tryd.ntmps19
  go_wp2
  go_loop [3] (fun i => ∃ k : Nat, k ≤ s.size ∧ i = .int .i64 k ∧ Hid (HexTo s k)) (fun i => s.size - (intOf i).toNat)
  case atStart => exact ⟨0, Nat.zero_le _, rfl, fun i hi => by omega⟩
  case round =>
    obtain ⟨k, hk, rfl, HH⟩ := hrel
    by_cases hlt : k < s.size
    · have hix := index_at s k hlt .i64
      obtain ⟨b0, b1⟩ := byteAt_lt s k
      by_cases hc : (48 ≤ byteAt s k ∧ byteAt s k ≤ 57) ∨ (97 ≤ byteAt s k ∧ byteAt s k ≤ 102)
      · have HH1 := hide (show HexTo s (k + 1) from fun i hi => by
          by_cases e : i = k
          · subst e; simpa [hexb] using hc
          · exact HH.out i (by omega))
        generalize byteAt s k = c at hix b0 b1 hc
        rcases hc with ⟨c1, c2⟩ | ⟨c1, c2⟩
        all_goals
          go_wp2
          go_round
          case rel => exact ⟨k + 1, by omega, by go_num, HH1.out⟩
          case measure => simp [intOf]; omega
      · have HF := hide (show hexb (byteAt s k) = false by simp [hexb]; omega)
        have hc' : byteAt s k < 48 ∨ (57 < byteAt s k ∧ byteAt s k < 97) ∨ 102 < byteAt s k := by omega
        have HE := hide (show ∃ i, i < s.size ∧ hexb (byteAt s i) = false from ⟨k, hlt, HF.out⟩)
        clear hc HF
        generalize byteAt s k = c at hix b0 b1 hc'
        rcases hc' with c1 | ⟨c1, c2⟩ | c1
        all_goals go_wp2
        all_goals first | (go_ret; exact ⟨.inr ⟨rfl, HE.out⟩, rfl⟩) | (exfalso; rename_i h; simp at h; omega)
    · obtain rfl : s.size = k := by omega
      go_wp2
      go_ret
      exact ⟨.inl ⟨rfl, HH.out⟩, rfl⟩

theorem byteAt_extract (s : ByteArray) (a b : Nat) (i : Nat) (hi : i < b - a) : byteAt (s.extract a b) i = byteAt s (a + i) := by
  unfold byteAt
  rw [ByteArray.data_extract, Array.toList_extract]
  rw [List.extract_eq_take_drop]
  simp only [List.getD]
  rw [List.getElem?_take_of_lt hi, List.getElem?_drop]

/-- A piece of a string. -/
structure Piece (s : ByteArray) (a b : Nat) (d : ByteArray) : Prop where
  size : d.size = b - a
  at' : ∀ i, i < b - a → byteAt d i = byteAt s (a + i)

theorem piece (s : ByteArray) (a b : Nat) (hab : a ≤ b) (hb : b ≤ s.size) : ∃ d, Piece s a b d ∧ ∀ w, (Instr.slice 9 (.string s) (some (.int .i64 (a : Int))) (some (.int .i64 (b : Int))) none).run Tryd.prog w = .ok (.string d) w := by
  refine ⟨s.extract a b, ⟨by rw [ByteArray.size_extract]; omega, fun i hi => byteAt_extract s a b i hi⟩, fun w => ?_⟩
  have := run_slice_string (P := Tryd.prog) (w := w) 9 s .i64 .i64 (a : Int) (b : Int) Tryd.underlying9 (by omega) (by omega) (by omega)
  rw [this]
  rfl

theorem uOk_sep {s : ByteArray} {i : Nat} (h : i = 8 ∨ i = 13 ∨ i = 18 ∨ i = 23) : uOk s i = (byteAt s i == 45) := by unfold uOk; rw [if_pos h]
theorem uOk_hex {s : ByteArray} {i : Nat} (h : ¬ (i = 8 ∨ i = 13 ∨ i = 18 ∨ i = 23)) : uOk s i = hexb (byteAt s i) := by unfold uOk; rw [if_neg h]; rfl
theorem uUpto_true {s : ByteArray} : ∀ n, (∀ i, i < n → uOk s i = true) → uUpto s n = true
  | 0, _ => rfl
  | n + 1, h => by unfold uUpto; rw [uUpto_true n (fun i hi => h i (by omega)), h n (by omega)]; rfl

theorem wUuid_sep {s : ByteArray} {i : Nat} (h : i = 8 ∨ i = 13 ∨ i = 18 ∨ i = 23) (hne : ¬ byteAt s i = 45) : wUuid s = false := by
  have : uUpto s 36 = false := uUpto_false (k := i) (by rw [uOk_sep h]; simpa using hne) 36 (by omega)
  simp [wUuid, this]
theorem wUuid_piece {s d : ByteArray} {a b : Nat} (hp : Piece s a b d) (hb : b ≤ 36) (hno : ∀ i, a ≤ i → i < b → ¬ (i = 8 ∨ i = 13 ∨ i = 18 ∨ i = 23)) (h : ∃ i, i < d.size ∧ hexb (byteAt d i) = false) : wUuid s = false := by
  obtain ⟨i, hi, hf⟩ := h
  rw [hp.size] at hi
  have : uUpto s 36 = false := uUpto_false (k := a + i) (by rw [uOk_hex (hno _ (by omega) (by omega)), ← hp.at' i hi]; exact hf) 36 (by omega)
  simp [wUuid, this]
theorem ok_piece {s d : ByteArray} {a b : Nat} (hp : Piece s a b d) (hno : ∀ i, a ≤ i → i < b → ¬ (i = 8 ∨ i = 13 ∨ i = 18 ∨ i = 23)) (h : HexTo d d.size) (i : Nat) (h1 : a ≤ i) (h2 : i < b) : uOk s i = true := by
  rw [uOk_hex (hno i h1 h2)]
  have := h (i - a) (by rw [hp.size]; omega)
  rw [hp.at' (i - a) (by omega), show a + (i - a) = i by omega] at this
  exact this

theorem wUuid_all {s d0 d1 d2 d3 d4 : ByteArray} (h36 : s.size = 36) (s8 : byteAt s 8 = 45) (s13 : byteAt s 13 = 45) (s18 : byteAt s 18 = 45) (s23 : byteAt s 23 = 45)
    (p0 : Piece s 0 8 d0) (p1 : Piece s 9 13 d1) (p2 : Piece s 14 18 d2) (p3 : Piece s 19 23 d3) (p4 : Piece s 24 36 d4)
    (h0 : HexTo d0 d0.size) (h1 : HexTo d1 d1.size) (h2 : HexTo d2 d2.size) (h3 : HexTo d3 d3.size) (h4 : HexTo d4 d4.size) : wUuid s = true := by
  have : uUpto s 36 = true := uUpto_true 36 fun i hi => by
    by_cases a1 : i < 8
    · exact ok_piece p0 (fun _ _ _ => by omega) h0 i (by omega) a1
    by_cases e1 : i = 8
    · subst e1; rw [uOk_sep (by omega), s8]; rfl
    by_cases a2 : i < 13
    · exact ok_piece p1 (fun _ _ _ => by omega) h1 i (by omega) a2
    by_cases e2 : i = 13
    · subst e2; rw [uOk_sep (by omega), s13]; rfl
    by_cases a3 : i < 18
    · exact ok_piece p2 (fun _ _ _ => by omega) h2 i (by omega) a3
    by_cases e3 : i = 18
    · subst e3; rw [uOk_sep (by omega), s18]; rfl
    by_cases a4 : i < 23
    · exact ok_piece p3 (fun _ _ _ => by omega) h3 i (by omega) a4
    by_cases e4 : i = 23
    · subst e4; rw [uOk_sep (by omega), s23]; rfl
    · exact ok_piece p4 (fun _ _ _ => by omega) h4 i (by omega) hi
  simp [wUuid, h36, this]

set_option maxHeartbeats 2000000 in
theorem uuid_at (s : ByteArray) (w : World) : Calls Tryd.prog 13 #[.string s] w (WPost (wUuid s) w) := by
  by_cases h36 : s.size = 36
  · have i8 := fun w => show (Instr.index 9 (.string s) (.int .i64 8)).run Tryd.prog w = .ok (.int .u8 (byteAt s 8)) w from index_at s 8 (by omega) .i64 w
    have i13 := fun w => show (Instr.index 9 (.string s) (.int .i64 13)).run Tryd.prog w = .ok (.int .u8 (byteAt s 13)) w from index_at s 13 (by omega) .i64 w
    have i18 := fun w => show (Instr.index 9 (.string s) (.int .i64 18)).run Tryd.prog w = .ok (.int .u8 (byteAt s 18)) w from index_at s 18 (by omega) .i64 w
    have i23 := fun w => show (Instr.index 9 (.string s) (.int .i64 23)).run Tryd.prog w = .ok (.int .u8 (byteAt s 23)) w from index_at s 23 (by omega) .i64 w
    by_cases s8 : byteAt s 8 = 45
    · rw [s8] at i8
      by_cases s13 : byteAt s 13 = 45
      · rw [s13] at i13
        by_cases s18 : byteAt s 18 = 45
        · rw [s18] at i18
          by_cases s23 : byteAt s 23 = 45
          · rw [s23] at i23
            obtain ⟨d0, p0, sl0⟩ := piece s 0 8 (by omega) (by omega)
            replace sl0 := fun w => show (Instr.slice 9 (.string s) (some (.int .i64 0)) (some (.int .i64 8)) none).run Tryd.prog w = .ok (.string d0) w from sl0 w
            have G0 := hide (fun w => hex_at d0 (by rw [p0.size]; omega) w)
            have P0 := hide p0
            obtain ⟨d1, p1, sl1⟩ := piece s 9 13 (by omega) (by omega)
            replace sl1 := fun w => show (Instr.slice 9 (.string s) (some (.int .i64 9)) (some (.int .i64 13)) none).run Tryd.prog w = .ok (.string d1) w from sl1 w
            have G1 := hide (fun w => hex_at d1 (by rw [p1.size]; omega) w)
            have P1 := hide p1
            obtain ⟨d2, p2, sl2⟩ := piece s 14 18 (by omega) (by omega)
            replace sl2 := fun w => show (Instr.slice 9 (.string s) (some (.int .i64 14)) (some (.int .i64 18)) none).run Tryd.prog w = .ok (.string d2) w from sl2 w
            have G2 := hide (fun w => hex_at d2 (by rw [p2.size]; omega) w)
            have P2 := hide p2
            obtain ⟨d3, p3, sl3⟩ := piece s 19 23 (by omega) (by omega)
            replace sl3 := fun w => show (Instr.slice 9 (.string s) (some (.int .i64 19)) (some (.int .i64 23)) none).run Tryd.prog w = .ok (.string d3) w from sl3 w
            have G3 := hide (fun w => hex_at d3 (by rw [p3.size]; omega) w)
            have P3 := hide p3
            obtain ⟨d4, p4, sl4⟩ := piece s 24 36 (by omega) (by omega)
            replace sl4 := fun w => show (Instr.slice 9 (.string s) (some (.int .i64 24)) (some (.int .i64 36)) none).run Tryd.prog w = .ok (.string d4) w from sl4 w
            have G4 := hide (fun w => hex_at d4 (by rw [p4.size]; omega) w)
            have P4 := hide p4
            clear p0 p1 p2 p3 p4
            have HS := hide (And.intro s8 (And.intro s13 (And.intro s18 s23)))
            clear s8 s13 s18 s23
            go_enter Tryd.func13, Tryd.ntmps13
            go_wp2_with fail
            refine (G0.out _).mono ?_
            rintro e w0 ⟨he, rfl⟩
            clear G0
            rcases he with ⟨rfl, hh⟩ | ⟨rfl, hh⟩
            rotate_left
            · have HR := hide (show wUuid s = false from wUuid_piece P0.out (by omega) (fun _ _ _ => by omega) hh)
              clear hh
              go_wp2
              go_ret
              exact ⟨by rw [HR.out]; rfl, Below.refl _ _⟩
            have H0 := hide hh
            clear hh
            go_wp2_with fail
            refine (G1.out _).mono ?_
            rintro e w1 ⟨he, rfl⟩
            clear G1
            rcases he with ⟨rfl, hh⟩ | ⟨rfl, hh⟩
            rotate_left
            · have HR := hide (show wUuid s = false from wUuid_piece P1.out (by omega) (fun _ _ _ => by omega) hh)
              clear hh
              go_wp2
              go_ret
              exact ⟨by rw [HR.out]; rfl, Below.refl _ _⟩
            have H1 := hide hh
            clear hh
            go_wp2_with fail
            refine (G2.out _).mono ?_
            rintro e w2 ⟨he, rfl⟩
            clear G2
            rcases he with ⟨rfl, hh⟩ | ⟨rfl, hh⟩
            rotate_left
            · have HR := hide (show wUuid s = false from wUuid_piece P2.out (by omega) (fun _ _ _ => by omega) hh)
              clear hh
              go_wp2
              go_ret
              exact ⟨by rw [HR.out]; rfl, Below.refl _ _⟩
            have H2 := hide hh
            clear hh
            go_wp2_with fail
            refine (G3.out _).mono ?_
            rintro e w3 ⟨he, rfl⟩
            clear G3
            rcases he with ⟨rfl, hh⟩ | ⟨rfl, hh⟩
            rotate_left
            · have HR := hide (show wUuid s = false from wUuid_piece P3.out (by omega) (fun _ _ _ => by omega) hh)
              clear hh
              go_wp2
              go_ret
              exact ⟨by rw [HR.out]; rfl, Below.refl _ _⟩
            have H3 := hide hh
            clear hh
            go_wp2_with fail
            refine (G4.out _).mono ?_
            rintro e w4 ⟨he, rfl⟩
            clear G4
            rcases he with ⟨rfl, hh⟩ | ⟨rfl, hh⟩
            rotate_left
            · have HR := hide (show wUuid s = false from wUuid_piece P4.out (by omega) (fun _ _ _ => by omega) hh)
              clear hh
              go_wp2
              go_ret
              exact ⟨by rw [HR.out]; rfl, Below.refl _ _⟩
            have H4 := hide hh
            clear hh
            have HR := hide (show wUuid s = true from wUuid_all h36 HS.out.1 HS.out.2.1 HS.out.2.2.1 HS.out.2.2.2 P0.out P1.out P2.out P3.out P4.out H0.out H1.out H2.out H3.out H4.out)
            go_wp2
            go_ret
            exact ⟨by rw [HR.out]; rfl, Below.refl _ _⟩
          · have HR := hide (show wUuid s = false from wUuid_sep (i := 23) (by omega) s23)
            generalize byteAt s 23 = c at i23 s23
            go_enter Tryd.func13, Tryd.ntmps13
            go_wp2
            go_ret
            exact ⟨by rw [HR.out]; rfl, Below.refl _ _⟩
        · have HR := hide (show wUuid s = false from wUuid_sep (i := 18) (by omega) s18)
          generalize byteAt s 18 = c at i18 s18
          go_enter Tryd.func13, Tryd.ntmps13
          go_wp2
          go_ret
          exact ⟨by rw [HR.out]; rfl, Below.refl _ _⟩
      · have HR := hide (show wUuid s = false from wUuid_sep (i := 13) (by omega) s13)
        generalize byteAt s 13 = c at i13 s13
        go_enter Tryd.func13, Tryd.ntmps13
        go_wp2
        go_ret
        exact ⟨by rw [HR.out]; rfl, Below.refl _ _⟩
    · have HR := hide (show wUuid s = false from wUuid_sep (i := 8) (by omega) s8)
      generalize byteAt s 8 = c at i8 s8
      go_enter Tryd.func13, Tryd.ntmps13
      go_wp2
      go_ret
      exact ⟨by rw [HR.out]; rfl, Below.refl _ _⟩
  · have HR := hide (show wUuid s = false by simp [wUuid, h36])
    go_enter Tryd.func13, Tryd.ntmps13
    go_wp2
    go_ret
    exact ⟨by rw [HR.out]; rfl, Below.refl _ _⟩

/-- zzPostgresWrites answers as the package does. -/
theorem pg_at (t s : ByteArray) (hs : s.size ≤ 1048576) (w : World) : Calls Tryd.prog 9 #[.string t, .string s] w (WPost (keeps t s) w) := by
  cases hb : (t.toList == [98, 105, 103, 105, 110, 116])
  · cases hu : (t.toList == [117, 117, 105, 100])
    · have HR := hide (show keeps t s = true by simp only [keeps, hb, hu]; rfl)
      go_enter Tryd.func9, Tryd.ntmps9
      go_wp2
      go_ret
      exact ⟨by rw [HR.out]; rfl, Below.refl _ _⟩
    · have HR := hide (show keeps t s = wUuid s by simp only [keeps, hb, hu]; rfl)
      have HC := hide (uuid_at s w)
      go_enter Tryd.func9, Tryd.ntmps9
      go_wp2_with fail
      refine HC.out.mono ?_
      rintro e w1 ⟨rfl, hb1⟩
      have HB := hide hb1
      clear hb1 HC
      go_wp2
      go_ret
      exact ⟨by rw [HR.out]; rfl, HB.out⟩
  · have HR := hide (show keeps t s = wBig s by simp only [keeps, hb]; rfl)
    have HC := hide (canonical_at s hs w)
    go_enter Tryd.func9, Tryd.ntmps9
    go_wp2_with fail
    refine HC.out.mono ?_
    rintro e w1 ⟨rfl, hb1⟩
    have HB := hide hb1
    clear hb1 HC
    go_wp2
    go_ret
    exact ⟨by rw [HR.out]; rfl, HB.out⟩
end Go.Proofs.Qxb6603473aDoor
