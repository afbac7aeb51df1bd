import Derived.Test.Qxb6603473aGraph
namespace Go.Proofs.Qxb6603473a
open Go.RowKit

/-- Block B is a row of l numbers, the first k of which are f. -/
def RowFilled (w : World) (B l k : Nat) (f : Nat → Int) : Prop :=
  ∃ cur : Array Value, w.heap[B]? = some (.cells cur 3 (0, 0)) ∧ cur.size = l ∧ ∀ i, i < k → cur[i]? = some (.int .i64 (f i))

theorem RowFilled.at {w : World} {B l k : Nat} {f : Nat → Int} (h : RowFilled w B l k f) {i : Nat} (hi : i < l) : (∃ v0, w.cell? ⟨B, i, none⟩ = some v0) ∧ w.frozen? ⟨B, i, none⟩ = false := by
  obtain ⟨cur, hb, hs, _⟩ := h
  refine ⟨⟨cur[i]'(by omega), ?_⟩, frozen_of_row _ _ _ _ _ hb⟩
  rw [cell_of_row _ _ _ _ _ _ hb]; simp

theorem RowFilled.step {w : World} {B l k : Nat} {f : Nat → Int} (h : RowFilled w B l k f) (hk : k < l) : RowFilled (w.setCell ⟨B, k, none⟩ (.int .i64 (f k))) B l (k + 1) f := by
  obtain ⟨cur, hb, hs, hc⟩ := h
  refine ⟨_, heap_setCell_same _ _ _ _ _ _ hb, by simpa using hs, fun i hi => ?_⟩
  by_cases e : i = k
  · subst e; simp [Array.getElem?_setIfInBounds, hs]; omega
  · rw [← hc i (by omega)]; simp [Array.getElem?_setIfInBounds]; intro h; omega

theorem RowFilled.made (w : World) (l : Nat) (f : Nat → Int) (z : Array Value) : RowFilled (w.alloc (.cells (madeCells z l) 3)) w.heap.size l 0 f :=
  ⟨_, heap_alloc_new w _, size_madeCells _ _, fun i hi => by omega⟩

theorem RowFilled.cell {w : World} {B l k : Nat} {f : Nat → Int} (h : RowFilled w B l k f) {i : Nat} (hi : i < k) : w.cell? ⟨B, i, none⟩ = some (.int .i64 (f i)) := by
  obtain ⟨cur, hb, hs, hc⟩ := h
  rw [cell_of_row _ _ _ _ _ _ hb]
  exact hc i hi

/-- Block B is a row of n slices: the first k hold copies of the graph's rows, the rest are nil. -/
def Cloned (w : World) (B n k : Nat) (L : Nat → Nat) (E : Nat → Nat → Int) : Prop :=
  ∃ cur : Array Value, w.heap[B]? = some (.cells cur 24 (0, 0)) ∧ cur.size = n ∧
    (∀ i, i < k → ∃ y, cur[i]? = some (.slice y (L i) (L i)) ∧ (y = none → L i = 0) ∧ (0 < L i → ∃ b', y = some ⟨b', 0, none⟩ ∧ B < b' ∧ ∀ j, j < L i → w.cell? ⟨b', j, none⟩ = some (.int .i64 (E i j)))) ∧
    ∀ i, k ≤ i → i < n → cur[i]? = some (.slice none 0 0)

theorem made_nil (n : Nat) : ∀ i, i < n → (madeCells (Value.slice none 0 0).cells n)[i]? = some (.slice none 0 0) := fun i hi => by
  simp [madeCells, hi, Value.cells, Nat.mod_one]

theorem Cloned.made (w : World) (n : Nat) (L : Nat → Nat) (E : Nat → Nat → Int) : Cloned (w.alloc (.cells (madeCells (Value.slice none 0 0).cells n) 24)) w.heap.size n 0 L E :=
  ⟨_, heap_alloc_new w _, size_madeCells _ _, fun i hi => by omega, fun i _ hi => made_nil n i hi⟩

theorem Cloned.at {w : World} {B n k : Nat} {L : Nat → Nat} {E : Nat → Nat → Int} (h : Cloned w B n k L E) {i : Nat} (hi : i < n) : (∃ v0, w.cell? ⟨B, i, none⟩ = some v0) ∧ w.frozen? ⟨B, i, none⟩ = false := by
  obtain ⟨cur, hb, hs, _⟩ := h
  refine ⟨⟨cur[i]'(by omega), ?_⟩, frozen_of_row _ _ _ _ _ hb⟩
  rw [cell_of_row _ _ _ _ _ _ hb]; simp

theorem Cloned.lt {w : World} {B n k : Nat} {L : Nat → Nat} {E : Nat → Nat → Int} (h : Cloned w B n k L E) : B < w.heap.size := by
  obtain ⟨cur, hb, _⟩ := h
  exact (Array.getElem?_eq_some_iff.1 hb).1

theorem Cloned.skip {w : World} {B n k : Nat} {L : Nat → Nat} {E : Nat → Nat → Int} (h : Cloned w B n k L E) (hk : k < n) (h0 : L k = 0) : Cloned w B n (k + 1) L E := by
  obtain ⟨cur, hb, hs, h1, h2⟩ := h
  refine ⟨cur, hb, hs, fun i hi => ?_, fun i hi hin => h2 i (by omega) hin⟩
  by_cases e : i = k
  · subst e
    exact ⟨none, by rw [h0]; exact h2 i (Nat.le_refl _) hk, fun _ => h0, fun h => by omega⟩
  · exact h1 i (by omega)

theorem Cloned.row {w w' : World} {B n k : Nat} {L : Nat → Nat} {E : Nat → Nat → Int} (h : Cloned w B n k L E) (hk : k < n) (hb' : Below w.heap.size w w') (hr : RowFilled w' w.heap.size (L k) (L k) (E k)) :
    Cloned (w'.setCell ⟨B, k, none⟩ (.slice (some ⟨w.heap.size, 0, none⟩) (L k) (L k))) B n (k + 1) L E := by
  have hB := h.lt
  obtain ⟨cur, hb, hs, h1, h2⟩ := h
  have hb2 : w'.heap[B]? = some (.cells cur 24 (0, 0)) := (hb'.block B hB).trans hb
  refine ⟨_, heap_setCell_same _ _ _ _ _ _ hb2, by simpa using hs, fun i hi => ?_, fun i hi hin => ?_⟩
  · by_cases e : i = k
    · subst e
      refine ⟨some ⟨w.heap.size, 0, none⟩, by simp [Array.getElem?_setIfInBounds, hs]; omega, by simp, fun _ => ⟨w.heap.size, rfl, hB, fun j hj => ?_⟩⟩
      rw [World.cell?_setCell_other _ _ _ _ (fun h => by have := congrArg Addr.block h; simp at this; omega)]
      exact hr.cell hj
    · obtain ⟨y, g1, g2, g3⟩ := h1 i (by omega)
      refine ⟨y, by rw [← g1]; simp [Array.getElem?_setIfInBounds]; intro h; omega, g2, fun h0 => ?_⟩
      obtain ⟨b', rfl, hBb, hc⟩ := g3 h0
      refine ⟨b', rfl, hBb, fun j hj => ?_⟩
      rw [World.cell?_setCell_other _ _ _ _ (fun h => by have := congrArg Addr.block h; simp at this; omega)]
      exact (hb'.cell (p := ⟨b', j, none⟩) (World.block_lt_of_cell? w _ (hc j hj))).trans (hc j hj)
  · rw [← h2 i (by omega) hin]; simp [Array.getElem?_setIfInBounds]; intro h; omega

theorem Cloned.graph {w : World} {B n : Nat} {L : Nat → Nat} {E : Nat → Nat → Int} (h : Cloned w B n n L E) (hn : n ≤ maxLen) (hL : ∀ i, i < n → L i ≤ maxLen) : Graph w (some ⟨B, 0, none⟩) n L E := by
  obtain ⟨cur, hb, hs, h1, _⟩ := h
  refine ⟨hn, fun _ => ⟨B, 0, rfl, fun i hi => ?_⟩⟩
  obtain ⟨y, g1, g2, g3⟩ := h1 i hi
  refine ⟨y, L i, ?_, fun e => ⟨g2 e, g2 e⟩, hL i hi, fun h0 => ?_⟩
  · rw [Nat.zero_add, cell_of_row _ _ _ _ _ _ hb]; exact g1
  · obtain ⟨b', rfl, _, hc⟩ := g3 h0
    exact ⟨b', 0, rfl, fun k hk => by rw [Nat.zero_add]; exact hc k hk⟩

theorem clone_nil (w : World) : Calls Try.prog 7 #[.slice none 0 0] w fun e w' => e = .returned (.slice none 0 0) ∧ w' = w := by
  have hq := fun w => Lib.run_eql_slice_nil (P := Try.prog) w 22 24 none 0 0 0 0 Try.underlying22
  go_enter Try.func7, Try.ntmps7
  go_wp2
  go_ret
  exact ⟨rfl, rfl⟩

set_option maxHeartbeats 1000000 in
theorem clone_any (a : Addr) (n cap : Nat) (L : Nat → Nat) (E : Nat → Nat → Int) (w : World) (h : Graph w (some a) n L E) (hn : n ≤ 65536) (hL : ∀ i, i < n → L i ≤ 1048576) :
    Calls Try.prog 7 #[.slice (some a) n cap] w fun e w' => e = .returned (.slice (some ⟨w.heap.size, 0, none⟩) n n) ∧ Cloned w' w.heap.size n n L E ∧ Below w.heap.size w w' := by
  have hq := fun w => Lib.run_eql_slice_nil (P := Try.prog) w 22 24 (some a) n cap 0 0 Try.underlying22
  have hq2 := fun w y l c => run_neq_slice_nil_any (P := Try.prog) w 24 3 y l c 0 0 Try.underlying24
  obtain ⟨i0, hi, hz0, hz1, hz2⟩ := info_parts Try.info24
  have hmk := run_make (P := Try.prog) w 22 24 i0 _ Try.underlying22 hi hz0 .i64 .i64 n n (by omega) (by omega) (by rw [hz2]; omega) (by omega)
  rw [hz1, Int.toNat_natCast, Nat.mul_one] at hmk
  have hF := Cloned.made w n L E
  generalize madeCells (Value.slice none 0 0).cells n = mc at hmk hF
  obtain ⟨hm, hc⟩ := h
  unfold maxLen at hm
  have HC := hide hc
  have HL := hide hL
  clear hc hi hz0 hz1 hz2 i0 hL
  go_enter Try.func7, Try.ntmps7
  go_wp2
  go_loopw [4] (fun i wr => ∃ k : Nat, k ≤ n ∧ i = .int .i64 k ∧ Cloned wr w.heap.size n k L E ∧ Below w.heap.size w wr) (fun i _ => n - (intOf i).toNat)
  case atStart => exact ⟨0, Nat.zero_le _, rfl, hF, (Below.refl _ _).alloc (Nat.le_refl _) _⟩
  case round =>
    clear hmk hF
    obtain ⟨k, hk, rfl, hf, hb⟩ := hrel
    by_cases hlt : k < n
    · obtain ⟨b, off, ha, hcc⟩ := HC.out (by omega)
      obtain rfl : a = ⟨b, off, none⟩ := by simpa using ha
      obtain ⟨y, cp, c1, c2, c3⟩ := hcc k hlt
      have hlk := HL.out k hlt
      have d1 := (hb.cell (p := ⟨b, off + k, none⟩) (World.block_lt_of_cell? w _ c1)).trans c1
      have hbl := World.block_lt_of_cell? w _ c1
      simp only at hbl
      have hwr := hb.size
      clear hcc c1 ha
      cases y with
      | none =>
        have h0 := (c2 rfl).1
        have F1 := hide (hf.skip hlt h0)
        clear hf c2 c3
        go_wp2
        go_roundw
        case rel => exact ⟨k + 1, by omega, by go_num, F1.out, hb⟩
        case measure => simp [intOf]; omega
      | some y =>
        obtain ⟨i1, hj, hy0, hy1, hy2⟩ := info_parts Try.info3
        have hmk := run_make (P := Try.prog) wr 24 3 i1 _ Try.underlying24 hj hy0 .i64 .i64 (L k) (L k) (by omega) (by omega) (by rw [hy2]; omega) (by omega)
        rw [hy1, Int.toNat_natCast, Nat.mul_one] at hmk
        have hR := RowFilled.made wr (L k) (E k) (Value.int .i64 0).cells
        generalize madeCells (Value.int .i64 0).cells (L k) = mr at hmk hR
        have hwB := hf.lt
        have FF := hide hf
        have C3 := hide c3.2
        clear hj hy0 hy1 hy2 i1 c2 hf c3
        go_wp2
        obtain ⟨wo, hwo⟩ : ∃ wo : World, wo = wr := ⟨_, rfl⟩
        go_loopw [6] (fun i wi => ∃ j : Nat, j ≤ L k ∧ i = .int .i64 j ∧ RowFilled wi wo.heap.size (L k) j (E k) ∧ Below wo.heap.size wo wi) (fun i _ => L k - (intOf i).toNat)
        case atStart => subst hwo; exact ⟨0, Nat.zero_le _, rfl, hR, (Below.refl _ _).alloc (Nat.le_refl _) _⟩
        case round =>
          subst hwo
          clear hmk hR
          obtain ⟨j, hj, rfl, hr, hbi⟩ := hrel
          by_cases hjl : j < L k
          · obtain ⟨b', off', hy, hrow⟩ := C3.out (by omega)
            obtain rfl : y = ⟨b', off', none⟩ := by simpa using hy
            have e1 := hrow j hjl
            have d2 := (hbi.cell (p := ⟨b', off' + j, none⟩) (Nat.lt_of_lt_of_le (World.block_lt_of_cell? w _ e1) hwr)).trans ((hb.cell (p := ⟨b', off' + j, none⟩) (World.block_lt_of_cell? w _ e1)).trans e1)
            have d3 := (hbi.cell (p := ⟨b, off + k, none⟩) (Nat.lt_of_lt_of_le hbl hwr)).trans d1
            obtain ⟨⟨v0, g0⟩, f0⟩ := hr.at hjl
            have HR := hide (hr.step hjl)
            clear hrow e1 hy hr d1
            go_wp2
            go_roundw
            case rel => exact ⟨j + 1, by omega, by go_num, HR.out, hbi.setCell (by exact Nat.le_refl _) _⟩
            case measure => simp [intOf]; omega
          · obtain rfl : j = L k := by omega
            have F1 := hide (FF.out.row hlt hbi hr)
            obtain ⟨⟨v0, g0⟩, f0⟩ := FF.out.at hlt
            have g1 := (hbi.cell (p := ⟨w.heap.size, k, none⟩) hwB).trans g0
            have f1 := (hbi.frozen (p := ⟨w.heap.size, k, none⟩) hwB).trans f0
            clear g0 f0 hr d1
            go_wp2
            go_roundw
            case rel => exact ⟨k + 1, by omega, by go_num, F1.out, (hb.trans (hbi.mono hwr)).setCell (by exact Nat.le_refl _) _⟩
            case measure => simp [intOf]; omega
    · obtain rfl : k = n := by omega
      go_wp2
      go_ret
      exact ⟨rfl, hf, hb⟩
end Go.Proofs.Qxb6603473a
