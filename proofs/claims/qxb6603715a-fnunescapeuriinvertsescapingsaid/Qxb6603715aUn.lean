import Derived.Test.Qxb6603715aEscB
import Derived.Deep.RegionLaw
namespace Go.Proofs.Qxb6603715a
namespace Uri
open Go.RowKit

/-- The first k bytes. -/
def firsts (f : Nat → Int) : Nat → List Int
  | 0 => []
  | k + 1 => firsts f k ++ [f k]
theorem firsts_len (f : Nat → Int) : ∀ k, (firsts f k).length = k
  | 0 => rfl
  | k + 1 => by simp [firsts, firsts_len f k]
theorem firsts_get (f : Nat → Int) : ∀ k i, i < k → (firsts f k)[i]? = some (f i)
  | 0, i, h => by omega
  | k + 1, i, h => by
    simp only [firsts]
    by_cases e : i = k
    · subst e
      rw [List.getElem?_append_right (by rw [firsts_len]; omega), firsts_len]; simp
    · rw [List.getElem?_append_left (by rw [firsts_len]; omega)]
      exact firsts_get f k i (by omega)

theorem escs_pre (all up : Bool) (f : Nat → Int) (k : Nat) : ∀ d, ∃ r, escs all up f (k + d) = escs all up f k ++ r
  | 0 => ⟨[], by simp⟩
  | d + 1 => by
    obtain ⟨r, h⟩ := escs_pre all up f k d
    exact ⟨r ++ esc1 all up (f (k + d)), by rw [← Nat.add_assoc, escs, h, List.append_assoc]⟩

theorem escs_at (all up : Bool) (f : Nat → Int) {k n : Nat} (h : k < n) {j : Nat} (hj : j < (esc1 all up (f k)).length) :
    (escs all up f k).length + j < (escs all up f n).length ∧ (escs all up f n)[(escs all up f k).length + j]? = (esc1 all up (f k))[j]? := by
  obtain ⟨r, hr⟩ := escs_pre all up f (k + 1) (n - (k + 1))
  rw [show k + 1 + (n - (k + 1)) = n from by omega] at hr
  rw [hr, escs]
  refine ⟨by simp; omega, ?_⟩
  rw [List.getElem?_append_left (by simp; omega), List.getElem?_append_right (by omega)]
  simp

theorem byteAt_nums {xs : List Int} {i : Nat} {z : Int} (h : xs[i]? = some z) (h0 : 0 ≤ z) (h1 : z < 256) : byteAt (strOfNums xs) i = z := by
  unfold byteAt
  rw [strOfNums_data]
  simp only [List.getD, List.getElem?_map, h, Option.map_some, Option.getD_some]
  rw [UInt8.toNat_ofNat']
  omega

theorem or_all : ∀ a b : Fin 16, bits .or .u8 (IntKind.u8.wrap ((a.val : Int) * 16)) (b.val : Int) = (a.val : Int) * 16 + (b.val : Int) := by decide +kernel
theorem or_at (c : Int) (h0 : 0 ≤ c) (h1 : c < 256) : bits .or .u8 (IntKind.u8.wrap (c / 16 * 16)) (c % 16) = c := by
  obtain ⟨n, rfl⟩ := Int.eq_ofNat_of_zero_le h0
  have := or_all ⟨n / 16, by omega⟩ ⟨n % 16, by omega⟩
  rw [show (n : Int) / 16 = ((n / 16 : Nat) : Int) from by omega, show (n : Int) % 16 = ((n % 16 : Nat) : Int) from by omega]
  refine this.trans ?_
  show ((n / 16 : Nat) : Int) * 16 + ((n % 16 : Nat) : Int) = n
  omega

theorem new_drew {W : World} {B : Nat} (hB : B = W.heap.size) (x : Value) (e : TypeId) : ∀ j u, [x][j]? = some u → (W.alloc (.cells #[x] e)).drew.cell? ((⟨B, 0, none⟩ : Addr).add j) = some u := one_new hB x e
theorem own_drew {W : World} {B : Nat} {v : Value} {n : Nat} {xs : List Value} (h : W.ownsRow B 5 1 v n xs) (o : Obj) : (W.alloc o).drew.ownsRow B 5 1 v n xs := h.alloc o
theorem grown_drew {W w1 : World} {r : Option Nat} (h : W.drew.grownBy w1 r) : W.grownBy w1 r := ⟨h.os, h.tape, h.output, h.size, h.block⟩

/-- An operation without a guard, as one step of a region that draws. -/
theorem step_of {P : Program} {ops : Array Oper} {o : Oper} {a : Act} {w : World} {K : Act → World → Prop} {Q : Exit → Act → World → Prop} {E : Prop}
    (hg : o.guard = none) (h : Oper.wp P o a w K Q) : if Region.wanted o (yielded ops a.tmps) = true then Oper.wp P o a w K Q else E := by
  have hw : Region.wanted o (yielded ops a.tmps) = true := by simp [Region.wanted, hg]
  rw [if_pos hw]
  exact h

/-- A call of hexDigit, by its contract, as one step of a region that draws. -/
theorem step_call {ops : Array Oper} {o : Oper} {a : Act} {w : World} {K : Act → World → Prop} {Q : Exit → Act → World → Prop} {E : Prop}
    (hg : o.guard = none) (n : Nat) (ho : o.op = .call { callee := .value (.func 18), args := #[.tmp n], argTypes := #[5] }) (v0 v : Value) (hv : a.tmps[n]?.getD undef = v0)
    (hc : Calls Try.prog 18 #[v0] w fun e w' => e = .returned v ∧ w' = w) (hK : K (a.put o.dst v) w) : if Region.wanted o (yielded ops a.tmps) = true then Oper.wp Try.prog o a w K Q else E := by
  refine step_of hg ?_
  subst hv
  have hf := Try.func18
  unfold Oper.wp
  cases o
  simp only at ho
  subst ho
  go_simp
  refine hc.mono fun e w' hh => ?_
  obtain ⟨rfl, rfl⟩ := hh
  exact hK

def UnPost (f : Nat → Int) (n : Nat) (w : World) (e : Ending) (w' : World) : Prop := e = .returned (.string (strOfNums (firsts f n))) ∧ Below w.heap.size w w'

set_option maxHeartbeats 2000000 in
theorem unescape_any (all up : Bool) (f : Nat → Int) (n : Nat) (hf : ∀ i, 0 ≤ f i ∧ f i < 256) (hn : n ≤ 262144) (u : ByteArray) (hu : u = strOfNums (escs all up f n)) (w : World) : Calls Try.prog 13 #[.string u] w (UnPost f n w) := by
  have hus : u.size = (escs all up f n).length := by rw [hu, strOfNums_size]
  have hul := escs_len all up f n
  rw [← hus] at hul
  have HU := hide hu
  have HUS := hide hus
  clear hu hus
  obtain ⟨i0, hi, hz0, hz1, hz2⟩ := info_parts info5
  obtain ⟨w2, hmk, ho2, hg2⟩ := run_make_own (P := Try.prog) w w.heap.size 37 5 i0 _ 1 Try.underlying37 hi hz0 hz1 .i64 .i64 u.size (by rw [hz2]; omega) (by unfold maxLen; omega) (Nat.le_refl _)
  have M0 : Rowed w (.slice (some ⟨w.heap.size, 0, none⟩) 0 u.size) (firsts f 0) w2 :=
    ⟨(Below.refl _ _).grown hg2 (Nat.le_refl _) (fun k hk => by cases hk), by simpa [firsts, vals] using ho2⟩
  have HF := hide hf
  clear ho2 hg2 hf
  go_enter Try.func13, Try.ntmps13
  go_wp2
  go_loopw [3, 4] (fun v i wr => ∃ k : Nat, k ≤ n ∧ i = .int .i64 ((escs all up f k).length : Nat) ∧ Rowed w v (firsts f k) wr) (fun _ i _ => u.size - (intOf i).toNat)
  case atStart => exact ⟨0, Nat.zero_le _, rfl, M0⟩
  case round =>
    clear hmk M0
    obtain ⟨k, hk, rfl, M⟩ := hrel
    by_cases hlt : k < n
    · have hwz := M.below.size
      have hfl := firsts_len f k
      obtain ⟨hb0, hb1⟩ := HF.out k
      have hE : escs all up f (k + 1) = escs all up f k ++ esc1 all up (f k) := rfl
      have hxn : firsts f (k + 1) = firsts f k ++ [f k] := rfl
      have hat : ∀ j z, (esc1 all up (f k))[j]? = some z → 0 ≤ z → z < 256 → (escs all up f k).length + j < u.size ∧ byteAt u ((escs all up f k).length + j) = z := fun j z hj h0 h1 => by
        have hjl : j < (esc1 all up (f k)).length := by
          rcases Nat.lt_or_ge j (esc1 all up (f k)).length with h | h
          · exact h
          · rw [List.getElem?_eq_none h] at hj; cases hj
        obtain ⟨g1, g2⟩ := escs_at all up f hlt hjl
        rw [HUS.out, HU.out]
        exact ⟨g1, byteAt_nums (g2.trans hj) h0 h1⟩
      have hEl : (escs all up f (k + 1)).length = (escs all up f k).length + (esc1 all up (f k)).length := by rw [hE]; simp
      replace HE := hide hE
      generalize (escs all up f k).length = p at hat hEl
      by_cases hbr : bare all (f k) = true
      · have h1 : esc1 all up (f k) = [f k] := by simp [esc1, hbr]
        rw [h1] at hat hEl
        have hne : ¬ f k = 37 := fun e => by rw [e] at hbr; simp [bare] at hbr
        obtain ⟨a1, a2⟩ := hat 0 _ rfl hb0 hb1
        have hix := index_at u p a1 .i64
        rw [show byteAt u p = f k from a2] at hix
        clear a2 hbr
        have hfl' : (firsts f k).length ≤ k := by omega
        clear hfl
        have HX := hide hxn
        have HL := hide hEl
        clear hxn hEl hat h1
        generalize hc : f k = c at *
        clear hc
        generalize firsts f k = xs at *
        have hown := M.own
        have HM := hide M
        clear M
        go_wp2_with (at_builtin; refine wpList_append_own _ rfl _ _ 37 rfl w.heap.size 5 i0 _ 1 1 Try.underlying37 hi hz0 hz1 hz2 rfl (by decide) _ _ _ rfl (hown.alloc _) ⟨wr.heap.size, 0, none⟩ 1 1 [.int .u8 c] rfl rfl (one_new (by simp) _ _) (one_cell _) (by unfold maxLen; omega) (by omega) (by simp; omega) ?_)
        intro v' w1 hown1 hg1 _
        have M1 := hide (HM.out.step hown1 hg1)
        clear hown1 hg1 hown
        go_wp2
        go_roundw
        case rel => exact ⟨k + 1, by omega, by rw [HL.out]; go_num, by rw [HX.out]; exact M1.out⟩
        case measure => simp [intOf]; omega
      · have h1 : esc1 all up (f k) = [37, hexc (f k / 16) up, hexc (f k % 16) up] := by simp [esc1, hbr]
        rw [h1] at hat hEl
        have q1 := hexc_lo (v := f k / 16) (up := up) (by omega) (by omega)
        have q2 := hexc_lo (v := f k % 16) (up := up) (by omega) (by omega)
        obtain ⟨a1, a2⟩ := hat 0 _ rfl (by omega) (by omega)
        obtain ⟨b1, b2⟩ := hat 1 _ rfl (by omega) (by omega)
        obtain ⟨c1, c2⟩ := hat 2 _ rfl (by omega) (by omega)
        have hix := index_at u p a1 .i64
        rw [show byteAt u p = 37 from a2] at hix
        have hiy := index_at u (p + 1) b1 .i64
        rw [b2, show ((p + 1 : Nat) : Int) = IntKind.i64.wrap ((p : Int) + 1) from by rw [IntKind.wrap_i64]; omega] at hiy
        have hiz := index_at u (p + 2) c1 .i64
        rw [c2, show ((p + 2 : Nat) : Int) = IntKind.i64.wrap ((p : Int) + 2) from by rw [IntKind.wrap_i64]; omega] at hiz
        have HD1 := hide (hexdigit_any (f k / 16) up (by omega) (by omega))
        have HD2 := hide (hexdigit_any (f k % 16) up (by omega) (by omega))
        have hor := or_at (f k) hb0 hb1
        clear a2 b2 c2 hbr q1 q2
        have hfl' : (firsts f k).length ≤ k := by omega
        clear hfl
        have HX := hide hxn
        have HL := hide hEl
        clear hxn hEl hat h1
        generalize hc : f k = c at *
        clear hc
        generalize firsts f k = xs at *
        have hown := M.own
        have HM := hide M
        clear M
        go_wp2_with fail
        go_region_law (first
          | (refine step_call rfl 28 rfl _ _ ?_ (HD1.out _) ?_; · rfl)
          | (refine step_call rfl 34 rfl _ _ ?_ (HD2.out _) ?_; · rfl)
          | (refine step_of rfl (wp_append_own _ (.tmp 24) (.tmp 37) 37 rfl w.heap.size 5 i0 _ 1 1 Try.underlying37 hi hz0 hz1 hz2 rfl (by decide) _ _ _ rfl (own_drew hown _) ⟨wr.heap.size, 0, none⟩ 1 1 [.int .u8 c] rfl rfl (new_drew rfl _ _) (one_cell _) (by unfold maxLen; omega) (by omega) (by simp; omega) ?_); intro v' w1 hown1 hg1 hz9))
        all_goals
          have M1 := hide (HM.out.step hown1 (grown_drew hg1))
          clear hown1 hg1 hz9
          go_wp2
          go_roundw
          case rel => exact ⟨k + 1, by omega, by rw [HL.out]; go_num, by rw [HX.out]; exact M1.out⟩
          case measure => simp [intOf]; omega
    · obtain rfl : k = n := by omega
      have hcv := conv_row M
      have hb := M.below
      have e := HUS.out
      rw [← e]
      clear M e
      go_wp2
      go_ret
      exact ⟨rfl, hb⟩
end Uri
end Go.Proofs.Qxb6603715a
