import Derived.Test.Qxb6603715aEsc
namespace Go.Proofs.Qxb6603715a
namespace Uri
open Go.RowKit

/-- The i-th byte of s. -/
def byteAt (s : ByteArray) (i : Nat) : Int := ((s.data.toList.getD i 0).toNat : Int)

theorem byteAt_get (s : ByteArray) (i : Nat) (h : i < s.size) : ((s[i]'h).toNat : Int) = byteAt s i := by
  have h' : i < s.data.toList.length := by rw [Array.length_toList]; exact h
  unfold byteAt
  rw [List.getD, List.getElem?_eq_getElem h']
  rfl
theorem byteAt_lt (s : ByteArray) (i : Nat) : 0 ≤ byteAt s i ∧ byteAt s i < 256 := by
  unfold byteAt
  have := (s.data.toList.getD i 0).toNat_lt
  omega
theorem index_at (s : ByteArray) (i : Nat) (h : i < s.size) (k : IntKind) (w : World) : (Instr.index 9 (.string s) (.int k (i : Int))).run Try.prog w = .ok (.int .u8 (byteAt s i)) w := by
  rw [run_index_string _ _ _ _ _ Try.underlying9, dif_pos (by omega), ← byteAt_get s i h]
  rfl

theorem and15_all : ∀ n : Fin 256, bits .and .u8 (n.val : Int) 15 = (n.val : Int) % 16 := by decide +kernel
theorem and15 (c : Int) (h0 : 0 ≤ c) (h1 : c < 256) : bits .and .u8 c 15 = c % 16 := by
  obtain ⟨n, rfl⟩ := Int.eq_ofNat_of_zero_le h0
  exact and15_all ⟨n, by omega⟩

def EscPost (s : ByteArray) (all up : Bool) (w : World) (e : Ending) (w' : World) : Prop := e = .returned (.string (strOfNums (escs all up (byteAt s) s.size))) ∧ Below w.heap.size w w'

set_option maxHeartbeats 4000000 in
theorem escape_any (s : ByteArray) (all up : Bool) (w : World) (hs : s.size ≤ 262144) : Calls Try.prog 10 #[.string s, .bool all, .bool up] w (EscPost s all up w) := by
  obtain ⟨i0, hi, hz0, hz1, hz2⟩ := info_parts info5
  obtain ⟨w2, hmk, ho2, hg2⟩ := run_make_own (P := Try.prog) w w.heap.size 37 5 i0 _ 1 Try.underlying37 hi hz0 hz1 .i64 .i64 (3 * s.size) (by rw [hz2]; omega) (by unfold maxLen; omega) (Nat.le_refl _)
  have M0 : Rowed w (.slice (some ⟨w.heap.size, 0, none⟩) 0 (3 * s.size)) (escs all up (byteAt s) 0) w2 :=
    ⟨(Below.refl _ _).grown hg2 (Nat.le_refl _) (fun k hk => by cases hk), by simpa [escs, vals] using ho2⟩
  have e3 : ((3 * s.size : Nat) : Int) = 3 * (s.size : Int) := by omega
  rw [e3] at hmk
  clear e3
  clear ho2 hg2
  go_enter Try.func10, Try.ntmps10
  go_wp2
  go_loopw [7, 8] (fun v i wr => ∃ k : Nat, k ≤ s.size ∧ i = .int .i64 k ∧ Rowed w v (escs all up (byteAt s) k) wr) (fun _ i _ => s.size - (intOf i).toNat)
  case atStart => exact ⟨0, Nat.zero_le _, rfl, M0⟩
  case round =>
    clear hmk M0
    obtain ⟨k, hk, rfl, M⟩ := hrel
    by_cases hlt : k < s.size
    · have hix := index_at s k hlt .i64
      obtain ⟨hb0, hb1⟩ := byteAt_lt s k
      have hel := escs_len all up (byteAt s) k
      have HE := hide (show ∀ xs, escs all up (byteAt s) k = xs → escs all up (byteAt s) (k + 1) = xs ++ esc1 all up (byteAt s k) from fun xs h => by rw [← h]; rfl)
      have hwz := M.below.size
      generalize byteAt s k = c at hix hb0 hb1 HE
      generalize hxs : escs all up (byteAt s) k = xs at M hel
      replace HE := hide (HE.out _ hxs)
      clear hxs
      have HM := hide M
      have hown := M.own
      clear M
      by_cases hbr : bare all c = true
      · have hE : escs all up (byteAt s) (k + 1) = xs ++ [c] := by rw [HE.out]; simp [esc1, hbr]
        replace HE := hide hE
        obtain ⟨h1, h2, h3, h4⟩ : all = false ∧ ¬ c = 37 ∧ ¬ c < 33 ∧ ¬ 126 < c := by
          simp [bare] at hbr
          exact ⟨hbr.1.1.1, hbr.1.1.2, by omega, by omega⟩
        subst h1
        clear hE hbr
        go_wp2_with (at_builtin; refine wpList_append_own _ rfl _ _ 37 rfl w.heap.size 5 i0 _ 1 1 Try.underlying37 hi hz0 hz1 hz2 rfl (by decide) _ _ _ rfl (hown.alloc _) ⟨wr.heap.size, 0, none⟩ 1 1 [.int .u8 c] rfl rfl (one_new (by simp) _ _) (one_cell _) (by unfold maxLen; omega) (by omega) (by simp; omega) ?_)
        intro v' w1 hown1 hg1 _
        have M1 := hide (HM.out.step hown1 hg1)
        clear hown1 hg1 hown
        go_wp2
        go_roundw
        case rel => exact ⟨k + 1, by omega, by go_num, by rw [HE.out]; exact M1.out⟩
        case measure => simp [intOf]; omega
      · have hE : escs all up (byteAt s) (k + 1) = xs ++ [37] ++ [hexc (c / 16) up] ++ [hexc (c % 16) up] := by rw [HE.out]; simp [esc1, hbr]
        replace HE := hide hE
        have hq : all = true ∨ (all = false ∧ c = 37) ∨ (all = false ∧ ¬ c = 37 ∧ c < 33) ∨ (all = false ∧ ¬ c = 37 ∧ ¬ c < 33 ∧ 126 < c) := by
          simp [bare] at hbr
          cases all
          · by_cases h1 : c = 37
            · simp [h1]
            · by_cases h2 : c < 33
              · simp [h1, h2]
              · simp [h1, h2]; exact hbr rfl h1 (by omega)
          · simp
        clear hE hbr
        rcases hq with rfl | ⟨rfl, rfl⟩ | ⟨rfl, h2, h3⟩ | ⟨rfl, h2, h3, h4⟩
        · have hand := and15 c hb0 hb1
          have HC1 := hide (hexchar_any (c / 16) up (by omega) (by omega))
          have HC2 := hide (hexchar_any (c % 16) up (by omega) (by omega))
          go_wp2_with (at_builtin; refine wpList_append_own _ rfl _ _ 37 rfl w.heap.size 5 i0 _ 1 1 Try.underlying37 hi hz0 hz1 hz2 rfl (by decide) _ _ _ rfl (hown.alloc _) ⟨wr.heap.size, 0, none⟩ 1 1 [.int .u8 37] rfl rfl (one_new (by simp) _ _) (one_cell _) (by unfold maxLen; omega) (by omega) (by simp; omega) ?_)
          intro v1 w1 hown1 hg1 _
          have M1 := HM.out.step hown1 hg1
          clear hown1 hg1 hown
          obtain ⟨x1, hx1⟩ : ∃ x1, x1 = xs ++ [37] := ⟨_, rfl⟩
          rw [← hx1] at M1
          have hl1 : x1.length ≤ xs.length + 1 := by rw [hx1]; simp
          replace hx1 := hide hx1
          have hw1 := M1.below.size
          have hown := M1.own
          replace M1 := hide M1
          go_wp2_with fail
          refine (HC1.out _).mono ?_
          rintro e wx ⟨rfl, rfl⟩
          go_wp2_with (at_builtin; refine wpList_append_own _ rfl _ _ 37 rfl w.heap.size 5 i0 _ 1 1 Try.underlying37 hi hz0 hz1 hz2 rfl (by decide) _ _ _ rfl (hown.alloc _) ⟨wx.heap.size, 0, none⟩ 1 1 [.int .u8 (hexc (c / 16) up)] rfl rfl (one_new (by simp) _ _) (one_cell _) (by unfold maxLen; omega) (by omega) (by simp; omega) ?_)
          intro v2 w3 hown2 hg2 _
          have M2 := M1.out.step hown2 hg2
          clear hown2 hg2 hown
          obtain ⟨x2, hx2⟩ : ∃ x2, x2 = x1 ++ [hexc (c / 16) up] := ⟨_, rfl⟩
          rw [← hx2] at M2
          have hl2 : x2.length ≤ x1.length + 1 := by rw [hx2]; simp
          replace hx2 := hide hx2
          have hw2 := M2.below.size
          have hown := M2.own
          replace M2 := hide M2
          go_wp2_with fail
          refine (HC2.out _).mono ?_
          rintro e wy ⟨rfl, rfl⟩
          go_wp2_with (at_builtin; refine wpList_append_own _ rfl _ _ 37 rfl w.heap.size 5 i0 _ 1 1 Try.underlying37 hi hz0 hz1 hz2 rfl (by decide) _ _ _ rfl (hown.alloc _) ⟨wy.heap.size, 0, none⟩ 1 1 [.int .u8 (hexc (c % 16) up)] rfl rfl (one_new (by simp) _ _) (one_cell _) (by unfold maxLen; omega) (by omega) (by simp; omega) ?_)
          intro v3 w4 hown3 hg3 _
          have M3 := hide (M2.out.step hown3 hg3)
          clear hown3 hg3 hown
          go_wp2
          go_roundw
          case rel => exact ⟨k + 1, by omega, by go_num, by rw [HE.out]; have e := M3.out; rw [hx2.out, hx1.out] at e; exact e⟩
          case measure => simp [intOf]; omega
        · have hand : bits .and .u8 37 15 = 5 := by decide +kernel
          have HC1 := hide (hexchar_any (2) up (by omega) (by omega))
          have HC2 := hide (hexchar_any (5) up (by omega) (by omega))
          go_wp2_with (at_builtin; refine wpList_append_own _ rfl _ _ 37 rfl w.heap.size 5 i0 _ 1 1 Try.underlying37 hi hz0 hz1 hz2 rfl (by decide) _ _ _ rfl (hown.alloc _) ⟨wr.heap.size, 0, none⟩ 1 1 [.int .u8 37] rfl rfl (one_new (by simp) _ _) (one_cell _) (by unfold maxLen; omega) (by omega) (by simp; omega) ?_)
          intro v1 w1 hown1 hg1 _
          have M1 := HM.out.step hown1 hg1
          clear hown1 hg1 hown
          obtain ⟨x1, hx1⟩ : ∃ x1, x1 = xs ++ [37] := ⟨_, rfl⟩
          rw [← hx1] at M1
          have hl1 : x1.length ≤ xs.length + 1 := by rw [hx1]; simp
          replace hx1 := hide hx1
          have hw1 := M1.below.size
          have hown := M1.own
          replace M1 := hide M1
          go_wp2_with fail
          refine (HC1.out _).mono ?_
          rintro e wx ⟨rfl, rfl⟩
          go_wp2_with (at_builtin; refine wpList_append_own _ rfl _ _ 37 rfl w.heap.size 5 i0 _ 1 1 Try.underlying37 hi hz0 hz1 hz2 rfl (by decide) _ _ _ rfl (hown.alloc _) ⟨wx.heap.size, 0, none⟩ 1 1 [.int .u8 (hexc (2) up)] rfl rfl (one_new (by simp) _ _) (one_cell _) (by unfold maxLen; omega) (by omega) (by simp; omega) ?_)
          intro v2 w3 hown2 hg2 _
          have M2 := M1.out.step hown2 hg2
          clear hown2 hg2 hown
          obtain ⟨x2, hx2⟩ : ∃ x2, x2 = x1 ++ [hexc (2) up] := ⟨_, rfl⟩
          rw [← hx2] at M2
          have hl2 : x2.length ≤ x1.length + 1 := by rw [hx2]; simp
          replace hx2 := hide hx2
          have hw2 := M2.below.size
          have hown := M2.own
          replace M2 := hide M2
          go_wp2_with fail
          refine (HC2.out _).mono ?_
          rintro e wy ⟨rfl, rfl⟩
          go_wp2_with (at_builtin; refine wpList_append_own _ rfl _ _ 37 rfl w.heap.size 5 i0 _ 1 1 Try.underlying37 hi hz0 hz1 hz2 rfl (by decide) _ _ _ rfl (hown.alloc _) ⟨wy.heap.size, 0, none⟩ 1 1 [.int .u8 (hexc (5) up)] rfl rfl (one_new (by simp) _ _) (one_cell _) (by unfold maxLen; omega) (by omega) (by simp; omega) ?_)
          intro v3 w4 hown3 hg3 _
          have M3 := hide (M2.out.step hown3 hg3)
          clear hown3 hg3 hown
          go_wp2
          go_roundw
          case rel => exact ⟨k + 1, by omega, by go_num, by rw [HE.out]; have e := M3.out; rw [hx2.out, hx1.out] at e; exact e⟩
          case measure => simp [intOf]; omega
        · have hand := and15 c hb0 hb1
          have HC1 := hide (hexchar_any (c / 16) up (by omega) (by omega))
          have HC2 := hide (hexchar_any (c % 16) up (by omega) (by omega))
          go_wp2_with (at_builtin; refine wpList_append_own _ rfl _ _ 37 rfl w.heap.size 5 i0 _ 1 1 Try.underlying37 hi hz0 hz1 hz2 rfl (by decide) _ _ _ rfl (hown.alloc _) ⟨wr.heap.size, 0, none⟩ 1 1 [.int .u8 37] rfl rfl (one_new (by simp) _ _) (one_cell _) (by unfold maxLen; omega) (by omega) (by simp; omega) ?_)
          intro v1 w1 hown1 hg1 _
          have M1 := HM.out.step hown1 hg1
          clear hown1 hg1 hown
          obtain ⟨x1, hx1⟩ : ∃ x1, x1 = xs ++ [37] := ⟨_, rfl⟩
          rw [← hx1] at M1
          have hl1 : x1.length ≤ xs.length + 1 := by rw [hx1]; simp
          replace hx1 := hide hx1
          have hw1 := M1.below.size
          have hown := M1.own
          replace M1 := hide M1
          go_wp2_with fail
          refine (HC1.out _).mono ?_
          rintro e wx ⟨rfl, rfl⟩
          go_wp2_with (at_builtin; refine wpList_append_own _ rfl _ _ 37 rfl w.heap.size 5 i0 _ 1 1 Try.underlying37 hi hz0 hz1 hz2 rfl (by decide) _ _ _ rfl (hown.alloc _) ⟨wx.heap.size, 0, none⟩ 1 1 [.int .u8 (hexc (c / 16) up)] rfl rfl (one_new (by simp) _ _) (one_cell _) (by unfold maxLen; omega) (by omega) (by simp; omega) ?_)
          intro v2 w3 hown2 hg2 _
          have M2 := M1.out.step hown2 hg2
          clear hown2 hg2 hown
          obtain ⟨x2, hx2⟩ : ∃ x2, x2 = x1 ++ [hexc (c / 16) up] := ⟨_, rfl⟩
          rw [← hx2] at M2
          have hl2 : x2.length ≤ x1.length + 1 := by rw [hx2]; simp
          replace hx2 := hide hx2
          have hw2 := M2.below.size
          have hown := M2.own
          replace M2 := hide M2
          go_wp2_with fail
          refine (HC2.out _).mono ?_
          rintro e wy ⟨rfl, rfl⟩
          go_wp2_with (at_builtin; refine wpList_append_own _ rfl _ _ 37 rfl w.heap.size 5 i0 _ 1 1 Try.underlying37 hi hz0 hz1 hz2 rfl (by decide) _ _ _ rfl (hown.alloc _) ⟨wy.heap.size, 0, none⟩ 1 1 [.int .u8 (hexc (c % 16) up)] rfl rfl (one_new (by simp) _ _) (one_cell _) (by unfold maxLen; omega) (by omega) (by simp; omega) ?_)
          intro v3 w4 hown3 hg3 _
          have M3 := hide (M2.out.step hown3 hg3)
          clear hown3 hg3 hown
          go_wp2
          go_roundw
          case rel => exact ⟨k + 1, by omega, by go_num, by rw [HE.out]; have e := M3.out; rw [hx2.out, hx1.out] at e; exact e⟩
          case measure => simp [intOf]; omega
        · have hand := and15 c hb0 hb1
          have HC1 := hide (hexchar_any (c / 16) up (by omega) (by omega))
          have HC2 := hide (hexchar_any (c % 16) up (by omega) (by omega))
          go_wp2_with (at_builtin; refine wpList_append_own _ rfl _ _ 37 rfl w.heap.size 5 i0 _ 1 1 Try.underlying37 hi hz0 hz1 hz2 rfl (by decide) _ _ _ rfl (hown.alloc _) ⟨wr.heap.size, 0, none⟩ 1 1 [.int .u8 37] rfl rfl (one_new (by simp) _ _) (one_cell _) (by unfold maxLen; omega) (by omega) (by simp; omega) ?_)
          intro v1 w1 hown1 hg1 _
          have M1 := HM.out.step hown1 hg1
          clear hown1 hg1 hown
          obtain ⟨x1, hx1⟩ : ∃ x1, x1 = xs ++ [37] := ⟨_, rfl⟩
          rw [← hx1] at M1
          have hl1 : x1.length ≤ xs.length + 1 := by rw [hx1]; simp
          replace hx1 := hide hx1
          have hw1 := M1.below.size
          have hown := M1.own
          replace M1 := hide M1
          go_wp2_with fail
          refine (HC1.out _).mono ?_
          rintro e wx ⟨rfl, rfl⟩
          go_wp2_with (at_builtin; refine wpList_append_own _ rfl _ _ 37 rfl w.heap.size 5 i0 _ 1 1 Try.underlying37 hi hz0 hz1 hz2 rfl (by decide) _ _ _ rfl (hown.alloc _) ⟨wx.heap.size, 0, none⟩ 1 1 [.int .u8 (hexc (c / 16) up)] rfl rfl (one_new (by simp) _ _) (one_cell _) (by unfold maxLen; omega) (by omega) (by simp; omega) ?_)
          intro v2 w3 hown2 hg2 _
          have M2 := M1.out.step hown2 hg2
          clear hown2 hg2 hown
          obtain ⟨x2, hx2⟩ : ∃ x2, x2 = x1 ++ [hexc (c / 16) up] := ⟨_, rfl⟩
          rw [← hx2] at M2
          have hl2 : x2.length ≤ x1.length + 1 := by rw [hx2]; simp
          replace hx2 := hide hx2
          have hw2 := M2.below.size
          have hown := M2.own
          replace M2 := hide M2
          go_wp2_with fail
          refine (HC2.out _).mono ?_
          rintro e wy ⟨rfl, rfl⟩
          go_wp2_with (at_builtin; refine wpList_append_own _ rfl _ _ 37 rfl w.heap.size 5 i0 _ 1 1 Try.underlying37 hi hz0 hz1 hz2 rfl (by decide) _ _ _ rfl (hown.alloc _) ⟨wy.heap.size, 0, none⟩ 1 1 [.int .u8 (hexc (c % 16) up)] rfl rfl (one_new (by simp) _ _) (one_cell _) (by unfold maxLen; omega) (by omega) (by simp; omega) ?_)
          intro v3 w4 hown3 hg3 _
          have M3 := hide (M2.out.step hown3 hg3)
          clear hown3 hg3 hown
          go_wp2
          go_roundw
          case rel => exact ⟨k + 1, by omega, by go_num, by rw [HE.out]; have e := M3.out; rw [hx2.out, hx1.out] at e; exact e⟩
          case measure => simp [intOf]; omega
    · obtain rfl : k = s.size := by omega
      have hcv := conv_row M
      have hb := M.below
      clear M
      go_wp2
      go_ret
      exact ⟨rfl, hb⟩
end Uri
end Go.Proofs.Qxb6603715a
