import Derived.Test.Qxb6603473aAcy
namespace Go.Proofs.Qxb6603473a
open Go.RowKit Dfs

set_option maxHeartbeats 400000 in
theorem zzacy_any (x : Option Addr) (n cap : Nat) (L : Nat → Nat) (E : Nat → Nat → Nat) (w : World) (h : Graph w x n L (fun i k => (E i k : Nat))) (hn : n ≤ 65536) (hL : ∀ i, i < n → L i ≤ 1048576) (hE : ∀ i, i < n → ∀ k, k < L i → E i k < n) :
    Calls Try.prog 8 #[.slice x n cap] w (AcyPost n L E w) := by
  go_enter Try.func8, Try.ntmps8
  go_wp2_with fail
  refine (acy_any x n cap L E w h hn hL hE).mono ?_
  rintro e w' ⟨hb, ⟨g, cp, F, rfl, h1, h2⟩ | ⟨g, m, cp, Y, rfl, h1, h2, h3⟩⟩
  · go_wp2
    go_ret2
    exact ⟨hb, .inl ⟨g, cp, F, rfl, h1, h2⟩⟩
  · go_wp2
    go_ret2
    exact ⟨hb, .inr ⟨g, m, cp, Y, rfl, h1, h2, h3⟩⟩

def ClonePost (n : Nat) (L : Nat → Nat) (E : Nat → Nat → Int) (w : World) (e : Ending) (w' : World) : Prop :=
  ∃ x', e = .returned (.slice x' n n) ∧ Graph w' x' n L E ∧ Below w.heap.size w w'

theorem clone_all (x : Option Addr) (n cap : Nat) (L : Nat → Nat) (E : Nat → Nat → Int) (w : World) (h : Graph w x n L E) (hx : x = none → n = 0 ∧ cap = 0) (hn : n ≤ 65536) (hL : ∀ i, i < n → L i ≤ 1048576) :
    Calls Try.prog 7 #[.slice x n cap] w (ClonePost n L E w) := by
  cases x with
  | none =>
    obtain ⟨rfl, rfl⟩ := hx rfl
    refine (clone_nil w).mono ?_
    rintro e w' ⟨rfl, rfl⟩
    exact ⟨none, rfl, h, Below.refl _ _⟩
  | some a =>
    refine (clone_any a n cap L E w h hn hL).mono ?_
    rintro e w' ⟨rfl, hc, hb⟩
    exact ⟨_, rfl, hc.graph (by unfold maxLen; omega) (fun i hi => by have := hL i hi; unfold maxLen; omega), hb⟩

theorem Graph.congr {w : World} {x : Option Addr} {n : Nat} {L : Nat → Nat} {E E' : Nat → Nat → Int} (h : Graph w x n L E) (he : ∀ i, i < n → ∀ k, k < L i → E i k = E' i k) : Graph w x n L E' := by
  refine ⟨h.1, fun h0 => ?_⟩
  obtain ⟨b, off, rfl, hc⟩ := h.2 h0
  refine ⟨b, off, rfl, fun i hi => ?_⟩
  obtain ⟨y, cp, c1, c2, c3, c4⟩ := hc i hi
  refine ⟨y, cp, c1, c2, c3, fun h1 => ?_⟩
  obtain ⟨b', off', rfl, hr⟩ := c4 h1
  exact ⟨b', off', rfl, fun k hk => by rw [← he i hi k hk]; exact hr k hk⟩

/-- The i-th row, in a later world. -/
theorem Graph.row {w wr : World} {b off : Nat} {n : Nat} {L : Nat → Nat} {E : Nat → Nat → Int} (h : Graph w (some ⟨b, off, none⟩) n L E) (hb : Below w.heap.size w wr) {i : Nat} (hi : i < n) :
    ∃ y cp, wr.cell? ⟨b, off + i, none⟩ = some (.slice y (L i) cp) ∧ L i ≤ maxLen ∧ (0 < L i → ∃ b' off', y = some ⟨b', off', none⟩ ∧ ∀ k, k < L i → wr.cell? ⟨b', off' + k, none⟩ = some (.int .i64 (E i k))) := by
  obtain ⟨_, hc⟩ := h.mono hb (Nat.le_refl _)
  obtain ⟨b1, off1, he, hcc⟩ := hc (by omega)
  obtain ⟨rfl, rfl⟩ : b = b1 ∧ off = off1 := by simpa using he
  obtain ⟨y, cp, c1, c2, c3, c4⟩ := hcc i hi
  exact ⟨y, cp, c1, c3, c4⟩

def posTo (F : Nat → Nat) : Nat → Nat → Int
  | 0, _ => -1
  | p + 1, i => if i = F p then (p : Nat) else posTo F p i
theorem posTo_none (F : Nat → Nat) : ∀ p i, (∀ q, q < p → F q ≠ i) → posTo F p i = -1
  | 0, _, _ => rfl
  | p + 1, i, h => by
    unfold posTo
    rw [if_neg (fun e => h p (Nat.lt_succ_self p) e.symm)]
    exact posTo_none F p i (fun q hq => h q (by omega))
theorem posTo_at (F : Nat → Nat) (n : Nat) (inj : ∀ p q, p < n → q < n → F p = F q → p = q) : ∀ p q, q < p → p ≤ n → posTo F p (F q) = (q : Nat)
  | p + 1, q, hq, hp => by
    unfold posTo
    by_cases e : F q = F p
    · rw [if_pos e, inj q p (by omega) (by omega) e]
    · rw [if_neg e]
      have : q ≠ p := fun h => e (by rw [h])
      exact posTo_at F n inj p q (by omega) (by omega)
theorem RowFilled.put {w : World} {B n : Nat} {F : Nat → Nat} {p : Nat} (h : RowFilled w B n n (posTo F p)) (_hp : F p < n) : RowFilled (w.setCell ⟨B, F p, none⟩ (.int .i64 (p : Nat))) B n n (posTo F (p + 1)) := by
  obtain ⟨cur, hb, hs, hc⟩ := h
  refine ⟨_, heap_setCell_same _ _ _ _ _ _ hb, by simpa using hs, fun i hi => ?_⟩
  unfold posTo
  by_cases e : i = F p
  · subst e; rw [if_pos rfl]; simp [Array.getElem?_setIfInBounds, hs]; omega
  · rw [if_neg e, ← hc i hi]; simp [Array.getElem?_setIfInBounds]; intro h; omega
theorem RowFilled.lt {w : World} {B l k : Nat} {f : Nat → Int} (h : RowFilled w B l k f) : B < w.heap.size := by
  obtain ⟨cur, hb, _⟩ := h
  exact (Array.getElem?_eq_some_iff.1 hb).1
theorem RowFilled.drewN {w : World} {B l k : Nat} {f : Nat → Int} (h : RowFilled w B l k f) (m : Nat) : RowFilled (w.drewN m) B l k f := h
theorem RowFilled.frozen {w : World} {B l k : Nat} {f : Nat → Int} (h : RowFilled w B l k f) (i : Nat) : w.frozen? ⟨B, i, none⟩ = false := by
  obtain ⟨cur, hb, _⟩ := h
  exact frozen_of_row _ _ _ _ _ hb

/-! ### The nodes seen -/
def seenTo (Y : Nat → Nat) : Nat → Nat → Bool
  | 0, _ => false
  | k + 1, i => i == Y k || seenTo Y k i
theorem seenTo_no (Y : Nat → Nat) : ∀ k i, (∀ j, j < k → Y j ≠ i) → seenTo Y k i = false
  | 0, _, _ => rfl
  | k + 1, i, h => by
    simp only [seenTo, seenTo_no Y k i (fun j hj => h j (by omega)), Bool.or_false]
    exact beq_eq_false_iff_ne.2 (fun e => h k (Nat.lt_succ_self k) e.symm)
def SeenRow (w : World) (B n : Nat) (f : Nat → Bool) : Prop :=
  ∃ cur : Array Value, w.heap[B]? = some (.cells cur 4 (0, 0)) ∧ cur.size = n ∧ ∀ i, i < n → cur[i]? = some (.bool (f i))
theorem SeenRow.made (w : World) (n : Nat) : SeenRow (w.alloc (.cells (madeCells (Value.bool false).cells n) 4)) w.heap.size n (fun _ => false) :=
  ⟨_, heap_alloc_new w _, size_madeCells _ _, fun i hi => by simp [madeCells, hi, Value.cells, Nat.mod_one]⟩
theorem SeenRow.cell {w : World} {B n : Nat} {f : Nat → Bool} (h : SeenRow w B n f) {i : Nat} (hi : i < n) : w.cell? ⟨B, i, none⟩ = some (.bool (f i)) ∧ w.frozen? ⟨B, i, none⟩ = false := by
  obtain ⟨cur, hb, hs, hc⟩ := h
  rw [cell_of_row _ _ _ _ _ _ hb]
  exact ⟨hc i hi, frozen_of_row _ _ _ _ _ hb⟩
theorem SeenRow.put {w : World} {B n : Nat} {Y : Nat → Nat} {k : Nat} (h : SeenRow w B n (seenTo Y k)) (_hk : Y k < n) : SeenRow (w.setCell ⟨B, Y k, none⟩ (.bool true)) B n (seenTo Y (k + 1)) := by
  obtain ⟨cur, hb, hs, hc⟩ := h
  refine ⟨_, heap_setCell_same _ _ _ _ _ _ hb, by simpa using hs, fun i hi => ?_⟩
  by_cases e : i = Y k
  · subst e; simp [Array.getElem?_setIfInBounds, hs, seenTo]; omega
  · rw [show seenTo Y (k + 1) i = seenTo Y k i by simp [seenTo, e], ← hc i hi]; simp [Array.getElem?_setIfInBounds]; intro h; omega

def True3 (w : World) (e : Ending) (w' : World) : Prop := e = .returned (.bool true) ∧ Below w.heap.size w w'

set_option maxHeartbeats 2000000 in
set_option maxRecDepth 100000 in
theorem law3 (x : Option Addr) (n cap : Nat) (L : Nat → Nat) (E : Nat → Nat → Int) (w : World) (h : Graph w x n L E) (hx : x = none → n = 0 ∧ cap = 0) :
    Calls Try.prog 3 #[.slice x n cap] w (True3 w) := by
  have HX := hide hx
  have HG := hide h
  have hm := h.1
  unfold maxLen at hm
  clear hx h
  go_enter Try.func3, Try.ntmps3
  go_wp2_with fail
  refine (bytes6 x n cap L E w HG.out).mono ?_
  rintro e w' ⟨rfl | ⟨rfl, hn1, hL⟩, rfl⟩
  · go_wp2_with fail
    go_ret
    exact ⟨rfl, Below.refl _ _⟩
  have HL := hide hL
  clear hL hm
  by_cases hn : n ≤ 65536
  case neg =>
    go_wp2_with fail
    go_ret
    exact ⟨rfl, Below.refl _ _⟩
  clear hn1
  go_wp2_with fail
  go_loop [4, 5] (fun t i => ∃ k : Nat, k ≤ n ∧ i = .int .i64 k ∧ ∃ z : Int, t = .int .i64 z ∧ 0 ≤ z ∧ z ≤ 1572864) (fun _ i => n - (intOf i).toNat)
  case atStart => exact ⟨0, Nat.zero_le _, rfl, _, rfl, by omega, by omega⟩
  case round =>
    obtain ⟨k, hk, rfl, z, rfl, hz0, hz1⟩ := hrel
    by_cases hlt : k < n
    · obtain ⟨b, off, rfl, hcc⟩ := HG.out.2 (by omega)
      obtain ⟨y, cp, c1, _, _⟩ := hcc k hlt
      have hl := HL.out k hlt
      clear hcc
      go_wp2_with fail
      · go_ret
        exact ⟨rfl, Below.refl _ _⟩
      · go_round
        case rel => exact ⟨k + 1, by omega, by go_num, _, rfl, by omega, by omega⟩
        case measure => simp [intOf]; omega
    · obtain rfl : k = n := by omega
      clear hk hlt
      go_wp2_with fail
      go_loop [6, 7] (fun i _ => ∃ j : Nat, j ≤ k ∧ i = .int .i64 j ∧ Hid (∀ i, i < j → ∀ e, e < L i → 0 ≤ E i e ∧ E i e < k)) (fun i _ => k - (intOf i).toNat)
      case atStart => exact ⟨0, Nat.zero_le _, rfl, fun i hi => by omega⟩
      case round =>
        obtain ⟨j, hj, rfl, HV⟩ := hrel
        by_cases hlt : j < k
        · obtain ⟨b, off, rfl, hcc⟩ := HG.out.2 (by omega)
          obtain ⟨y, cp, c1, _, hl, hr⟩ := hcc j hlt
          unfold maxLen at hl
          have HR := hide hr
          clear hcc hr
          go_wp2_with fail
          go_loop [7] (fun i => ∃ e : Nat, e ≤ L j ∧ i = .int .i64 e ∧ Hid (∀ i, i < e → 0 ≤ E j i ∧ E j i < k)) (fun i => L j - (intOf i).toNat)
          case atStart => exact ⟨0, Nat.zero_le _, rfl, fun i hi => by omega⟩
          case round =>
            obtain ⟨e, he, rfl, HW⟩ := hrel
            by_cases hel : e < L j
            · obtain ⟨b', off', rfl, hrow⟩ := HR.out (by omega)
              have d1 := hrow e hel
              clear hrow
              by_cases h1 : E j e < 0
              · go_wp2_with fail
                go_ret
                exact ⟨rfl, Below.refl _ _⟩
              · by_cases h2 : (k : Int) ≤ E j e
                · go_wp2_with fail
                  go_ret
                  exact ⟨rfl, Below.refl _ _⟩
                · go_wp2_with fail
                  go_round
                  case rel => exact ⟨e + 1, by omega, by go_num, fun i hi => by
                    by_cases e' : i = e
                    · subst e'; omega
                    · exact HW.out i (by omega)⟩
                  case measure => simp [intOf]; omega
            · obtain rfl : e = L j := by omega
              go_wp2_with fail
              go_round
              case rel => exact ⟨j + 1, by omega, by go_num, fun i hi => by
                by_cases e' : i = j
                · subst e'; exact HW.out
                · exact HV.out i (by omega)⟩
              case measure => simp [intOf]; omega
        · obtain rfl : j = k := by omega
          obtain ⟨n, rfl⟩ : ∃ n, n = j := ⟨_, rfl⟩
          clear hlt hj
          go_wp2_with fail
          refine (clone_all x n cap L E w' HG.out HX.out hn HL.out).mono ?_
          rintro e w1 ⟨x', rfl, hg1, hb1⟩
          replace hg1 := hg1.congr (E' := fun i k => ((E i k).toNat : Nat)) (fun i hi k hk => by have := HV.out i hi k hk; omega)
          have HE : Hid (∀ i, i < n → ∀ k, k < L i → (fun i k => (E i k).toNat) i k < n) := fun i hi k hk => by have := HV.out i hi k hk; show (E i k).toNat < n; omega
          generalize hE' : (fun i k => (E i k).toNat) = E' at HE
          have hg1' : Graph w1 x' n L (fun i k => (E' i k : Nat)) := by rw [← hE']; exact hg1
          clear hg1 hE' HV HG HX
          go_wp2_with fail
          refine (zzacy_any x' n n L E' w1 hg1' hn HL.out HE.out).mono ?_
          rintro e w2 ⟨hb2, ⟨g, co, F, rfl, hord, hcell⟩ | ⟨g, m, cc, Y, rfl, hcy, hmn, hcell⟩⟩
          · have hbel := hb1.trans (hb2.mono hb1.size)
            have hg2 := hg1'.mono hb2 (Nat.le_refl _)
            clear hg1' hb1 hb2
            have hq := fun w a l c => Lib.run_eql_slice_nil (P := Try.prog) w 24 3 a l c 0 0 Try.underlying24
            obtain ⟨i3, hi3, hz30, hz31, hz32⟩ := info_parts Try.info3
            have hmk := run_make (P := Try.prog) w2 24 3 i3 _ Try.underlying24 hi3 hz30 .i64 .i64 n n (by omega) (by omega) (by rw [hz32]; omega) (by omega)
            rw [hz31, Int.toNat_natCast, Nat.mul_one] at hmk
            have hF := RowFilled.made w2 n (fun _ => -1) (Value.int .i64 0).cells
            generalize madeCells (Value.int .i64 0).cells n = mp at hmk hF
            have HC := hide hcell
            have HO := hide hord
            clear hi3 hz30 hz31 hz32 i3 hcell hord
            go_wp2_with fail
            go_loopw [11] (fun i wr => ∃ k : Nat, k ≤ n ∧ i = .int .i64 k ∧ RowFilled wr w2.heap.size n k (fun _ => -1) ∧ Below w2.heap.size w2 wr) (fun i _ => n - (intOf i).toNat)
            case atStart => exact ⟨0, Nat.zero_le _, rfl, hF, (Below.refl _ _).alloc (Nat.le_refl _) _⟩
            case round =>
              clear hmk hF hq
              obtain ⟨k, hk, rfl, hf, hb⟩ := hrel
              by_cases hlt : k < n
              · obtain ⟨⟨v0, e0⟩, f0⟩ := hf.at hlt
                have HS := hide (hf.step hlt)
                clear hf
                go_wp2_with fail
                go_roundw
                case rel => exact ⟨k + 1, by omega, by go_num, HS.out, hb.setCell (by exact Nat.le_refl _) _⟩
                case measure => simp [intOf]; omega
              · obtain rfl : k = n := by omega
                go_wp2_with fail
                obtain ⟨wo, rfl⟩ : ∃ wo : World, wo = wr := ⟨_, rfl⟩
                go_loopw [12] (fun i wr => ∃ p : Nat, p ≤ k ∧ i = .int .i64 p ∧ RowFilled wr w2.heap.size k k (posTo F p) ∧ Below w2.heap.size w2 wr) (fun i _ => k - (intOf i).toNat)
                case atStart => exact ⟨0, Nat.zero_le _, rfl, hf, hb⟩
                case round =>
                  clear hf hb
                  obtain ⟨p, hp, rfl, hf, hb⟩ := hrel
                  by_cases hpl : p < k
                  · have q1 := HC.out p hpl
                    have d1 := (hb.cell (p := ⟨g, p, none⟩) (World.block_lt_of_cell? w2 _ q1)).trans q1
                    have hFp := HO.out.lt p hpl
                    have d2 := hf.cell hFp
                    rw [posTo_none F p (F p) (fun q hq e => by have := HO.out.inj q p (by omega) hpl e; omega)] at d2
                    have f2 := hf.frozen (F p)
                    have HS := hide (hf.put hFp)
                    clear hf q1
                    generalize F p = fp at d1 d2 f2 HS hFp
                    go_wp2_with fail
                    go_roundw
                    case rel => exact ⟨p + 1, by omega, by go_num, HS.out, hb.setCell (by exact Nat.le_refl _) _⟩
                    case measure => simp [intOf]; omega
                  · obtain rfl : p = k := by omega
                    go_wp2_with fail
                    obtain ⟨wo2, rfl⟩ : ∃ wo2 : World, wo2 = wr := ⟨_, rfl⟩
                    go_loopw [14, 15] (fun i _ wr => ∃ a : Nat, a ≤ p ∧ i = .int .i64 a ∧ RowFilled wr w2.heap.size p p (posTo F p) ∧ Below w2.heap.size w2 wr) (fun i _ _ => p - (intOf i).toNat)
                    case atStart => exact ⟨0, Nat.zero_le _, rfl, hf, hb⟩
                    case round =>
                      clear hf hb
                      obtain ⟨a, ha, rfl, hf, hb⟩ := hrel
                      by_cases hal : a < p
                      · obtain ⟨b, off, rfl, _⟩ := hg2.2 (by omega)
                        have hLa := HL.out a hal
                        go_wp2_with fail
                        obtain ⟨wo3, rfl⟩ : ∃ wo3 : World, wo3 = wr := ⟨_, rfl⟩
                        go_loopw [15] (fun i wr => ∃ e : Nat, e ≤ L a ∧ i = .int .i64 e ∧ RowFilled wr w2.heap.size p p (posTo F p) ∧ Below w2.heap.size w2 wr) (fun i _ => L a - (intOf i).toNat)
                        case atStart => exact ⟨0, Nat.zero_le _, rfl, hf, hb⟩
                        case round =>
                          clear hf hb
                          obtain ⟨e, he, rfl, hf, hb⟩ := hrel
                          obtain ⟨y, cy, c1, _, c3⟩ := hg2.row hb hal
                          by_cases hel : e < L a
                          · obtain ⟨b', off', rfl, hrow⟩ := c3 (by omega)
                            have d1 := hrow e hel
                            have hEe := HE.out a hal e hel
                            obtain ⟨q, hq, hqa⟩ := HO.out.sur a hal
                            obtain ⟨r, hr, hre⟩ := HO.out.topo q hq e (by rw [hqa]; exact hel)
                            rw [hqa] at hre
                            have d3 := hf.cell hEe
                            rw [← hre, posTo_at F p HO.out.inj p r (by omega) (Nat.le_refl _)] at d3
                            rw [hre] at d3
                            have d4 := hf.cell hal
                            rw [show posTo F p a = (q : Nat) by rw [← hqa]; exact posTo_at F p HO.out.inj p q hq (Nat.le_refl _)] at d4
                            clear hrow c3 hqa hre
                            generalize E' a e = t0 at d1 d3 hEe
                            go_wp2_with fail
                            go_quiet (fail)
                            go_wp2_with fail
                            go_roundw
                            case rel => exact ⟨e + 1, by omega, by go_num, hf.drewN _, below_drewN hb _⟩
                            case measure => simp [intOf]; omega
                          · obtain rfl : e = L a := by omega
                            clear c3
                            go_wp2_with fail
                            go_roundw
                            case rel => exact ⟨a + 1, by omega, by go_num, hf, hb⟩
                            case measure => simp [intOf]; omega
                      · obtain rfl : a = p := by omega
                        go_wp2_with fail
                        go_ret
                        exact ⟨rfl, hbel.trans (hb.mono hbel.size)⟩
          · have hbel := hb1.trans (hb2.mono hb1.size)
            have hg2 := hg1'.mono hb2 (Nat.le_refl _)
            clear hg1' hb1 hb2
            have hq := fun w a l c => Lib.run_eql_slice_nil (P := Try.prog) w 24 3 a l c 0 0 Try.underlying24
            have hq2 := fun w a l c => run_neq_slice_nil_any (P := Try.prog) w 24 3 a l c 0 0 Try.underlying24
            have h2 := hcy.two
            have c0 := hcell 0 (by omega)
            have c1 := hcell (m - 1) (by omega)
            rw [← hcy.ends] at c1
            have hd : decide ((m : Int) < 2) = false := decide_eq_false (by omega)
            have HC := hide hcell
            have HY := hide hcy
            clear hcell hcy
            go_upto_region 50 with fail
            go_quiet (fail)
            clear c0 c1 hd hq hq2
            go_wp2_with fail
            go_loop [17] (fun i => ∃ k : Nat, k ≤ m ∧ i = .int .i64 k) (fun i => m - (intOf i).toNat)
            case atStart => exact ⟨0, Nat.zero_le _, rfl⟩
            case round =>
              obtain ⟨k, hk, rfl⟩ := hrel
              by_cases hkm : k < m
              · have c1 := HC.out k hkm
                have hY := HY.out.lt k hkm
                generalize Y k = yk at c1 hY
                go_wp2_with fail
                go_round
                case rel => exact ⟨k + 1, by omega, by go_num⟩
                case measure => simp [intOf]; omega
              · obtain rfl : k = m := by omega
                go_wp2_with fail
                go_loopw [18] (fun i wr => ∃ j : Nat, j + 1 ≤ k ∧ i = .int .i64 j ∧ Below w2.heap.size w2 wr) (fun i _ => k - (intOf i).toNat)
                case atStart => exact ⟨0, by omega, rfl, below_drewN (Below.refl _ _) _⟩
                case round =>
                  obtain ⟨j, hj, rfl, hb⟩ := hrel
                  by_cases hjm : j + 1 < k
                  · have q1 := HC.out j (by omega)
                    have q2 := HC.out (j + 1) hjm
                    have c1 := (hb.cell (p := ⟨g, j, none⟩) (World.block_lt_of_cell? w2 _ q1)).trans q1
                    have c2 := (hb.cell (p := ⟨g, j + 1, none⟩) (World.block_lt_of_cell? w2 _ q2)).trans q2
                    obtain ⟨e0, he0, hE0⟩ := HY.out.edge j hjm
                    have hY := HY.out.lt j (by omega)
                    have HQ : Hid (∀ nn, Calls Try.prog 9 #[.slice x' n n, .int .i64 (Y j : Nat), .int .i64 (Y (j + 1) : Nat)] (wr.drewN nn) fun e w' => e = .returned (.bool true) ∧ w' = wr.drewN nn) := fun nn =>
                      hasEdge x' n n L _ (Y j) e0 _ _ (hg2.mono (below_drewN hb nn) (Nat.le_refl _)) hY he0 (by show ((E' (Y j) e0 : Nat) : Int) = _; rw [hE0])
                    clear q1 q2 hE0 he0
                    generalize Y j = yj at c1 HQ hY
                    generalize Y (j + 1) = yj1 at c2 HQ
                    go_wp2_with fail
                    go_quiet ((go_at_call 9; exact Calls.quiet_of_same (HQ.out _)))
                    go_wp2_with fail
                    go_roundw
                    case rel => exact ⟨j + 1, by omega, by go_num, below_drewN hb _⟩
                    case measure => simp [intOf]; omega
                  · clear hg2
                    obtain ⟨i4, hi4, hz40, hz41, hz42⟩ := info_parts Try.info4
                    have hmk := run_make (P := Try.prog) wr 29 4 i4 _ Try.underlying29 hi4 hz40 .i64 .i64 n n (by omega) (by omega) (by rw [hz42]; omega) (by omega)
                    rw [hz41, Int.toNat_natCast, Nat.mul_one] at hmk
                    have hF : SeenRow _ wr.heap.size n (seenTo Y 0) := SeenRow.made wr n
                    generalize madeCells (Value.bool false).cells n = mb at hmk hF
                    clear hi4 hz40 hz41 hz42 i4
                    go_wp2_with fail
                    obtain ⟨ws, hws⟩ : ∃ ws : World, ws = wr := ⟨_, rfl⟩
                    go_loopw [20] (fun i wr => ∃ t : Nat, t + 1 ≤ k ∧ i = .int .i64 t ∧ SeenRow wr ws.heap.size n (seenTo Y t) ∧ Below ws.heap.size ws wr) (fun i _ => k - (intOf i).toNat)
                    case atStart => subst hws; exact ⟨0, by omega, rfl, hF, (Below.refl _ _).alloc (Nat.le_refl _) _⟩
                    case round =>
                      subst hws
                      clear hmk hF
                      obtain ⟨t, ht, rfl, hsn, hbs⟩ := hrel
                      by_cases htm : t + 1 < k
                      · have q1 := HC.out t (by omega)
                        have q2 := (hb.cell (p := ⟨g, t, none⟩) (World.block_lt_of_cell? w2 _ q1)).trans q1
                        have c1 := (hbs.cell (p := ⟨g, t, none⟩) (World.block_lt_of_cell? ws _ q2)).trans q2
                        have hgs := World.block_lt_of_cell? ws _ q2
                        simp only at hgs
                        have hY := HY.out.lt t (by omega)
                        obtain ⟨d1, f1⟩ := hsn.cell hY
                        rw [seenTo_no Y t (Y t) (fun j hj e => by have := HY.out.inj j t (by omega) htm e; omega)] at d1
                        have HS := hide (hsn.put hY)
                        clear hsn q1 q2
                        generalize Y t = yt at c1 d1 f1 HS hY
                        go_wp2_with fail
                        go_roundw
                        case rel => exact ⟨t + 1, by omega, by go_num, HS.out, hbs.setCell (by exact Nat.le_refl _) _⟩
                        case measure => simp [intOf]; omega
                      · go_wp2_with fail
                        go_ret
                        exact ⟨rfl, hbel.trans ((hb.mono hbel.size).trans (hbs.mono (by have := hb.size; have := hbel.size; omega)))⟩
end Go.Proofs.Qxb6603473a
