import Derived.Test.Qxb6602841aParts
namespace Go.Proofs.Qxb6602841a
open Go.RowKit

theorem Try.info44 : (Try.prog.info? 44).map (fun i => (i.zero, i.size, i.bytes)) = some (some (.agg #[.string ByteArray.empty, .int .i64 0]), 2, 24) := by kernel_rfl
theorem Try.info45 : (Try.prog.info? 45).map (fun i => (i.zero, i.size, i.bytes)) = some (some (.agg #[.string ByteArray.empty, .int .i64 0]), 2, 24) := by kernel_rfl

/-- Block B is a row of n pairs of type e, the first k of which are (S i, V i). -/
def Filled (w : World) (B : Nat) (e : TypeId) (n k : Nat) (S : Nat → ByteArray) (V : Nat → Int) : Prop :=
  ∃ cur : Array Value, w.heap[B]? = some (.cells cur e (0, 0)) ∧ cur.size = n * 2 ∧ ∀ i, i < k → cur[i * 2]? = some (.string (S i)) ∧ cur[i * 2 + 1]? = some (.int .i64 (V i))

theorem Filled.at {w : World} {B : Nat} {e : TypeId} {n k : Nat} {S : Nat → ByteArray} {V : Nat → Int} (h : Filled w B e n k S V) {i : Nat} (hi : i < n) :
    (∃ v0, w.cell? ⟨B, i * 2, none⟩ = some v0) ∧ (∃ v1, w.cell? ⟨B, i * 2 + 1, none⟩ = some v1) ∧ w.frozen? ⟨B, i * 2, none⟩ = false ∧ w.frozen? ⟨B, i * 2 + 1, none⟩ = false := by
  obtain ⟨cur, hb, hs, _⟩ := h
  refine ⟨⟨cur[i * 2]'(by omega), ?_⟩, ⟨cur[i * 2 + 1]'(by omega), ?_⟩, frozen_of_row _ _ _ _ _ hb, frozen_of_row _ _ _ _ _ hb⟩
  · rw [cell_of_row _ _ _ _ _ _ hb]; simp
  · rw [cell_of_row _ _ _ _ _ _ hb]; simp

theorem Filled.step {w : World} {B : Nat} {e : TypeId} {n k : Nat} {S : Nat → ByteArray} {V : Nat → Int} (h : Filled w B e n k S V) (hk : k < n) :
    Filled ((w.setCell ⟨B, k * 2, none⟩ (.string (S k))).setCell ⟨B, k * 2 + 1, none⟩ (.int .i64 (V k))) B e n (k + 1) S V := by
  obtain ⟨cur, hb, hs, hc⟩ := h
  refine ⟨_, heap_setCell_same _ _ _ _ _ _ (heap_setCell_same _ _ _ _ _ _ hb), by simpa using hs, fun i hi => ?_⟩
  by_cases e : i = k
  · subst e
    constructor
    · simp [Array.getElem?_setIfInBounds, hs]; omega
    · simp [Array.getElem?_setIfInBounds, hs]; omega
  · obtain ⟨h1, h2⟩ := hc i (by omega)
    constructor
    · rw [← h1]; simp [Array.getElem?_setIfInBounds]; rw [if_neg (by omega), if_neg (by omega)]
    · rw [← h2]; simp [Array.getElem?_setIfInBounds]; rw [if_neg (by omega), if_neg (by omega)]

theorem Filled.cells {w : World} {B : Nat} {e : TypeId} {n k : Nat} {S : Nat → ByteArray} {V : Nat → Int} (h : Filled w B e n k S V) {i : Nat} (hi : i < k) :
    w.cell? ⟨B, i * 2, none⟩ = some (.string (S i)) ∧ w.cell? ⟨B, i * 2 + 1, none⟩ = some (.int .i64 (V i)) := by
  obtain ⟨cur, hb, hs, hc⟩ := h
  rw [cell_of_row _ _ _ _ _ _ hb, cell_of_row _ _ _ _ _ _ hb]
  exact hc i hi

theorem Filled.pairs {w : World} {B : Nat} {e : TypeId} {n : Nat} {S : Nat → ByteArray} {V : Nat → Int} (h : Filled w B e n n S V) (hn : n ≤ maxLen) (hs : ∀ i, i < n → (S i).size ≤ maxLen) : Pairs w (some ⟨B, 0, none⟩) n S V :=
  ⟨hn, fun _ => ⟨B, 0, rfl, fun i hi => by simp only [Nat.zero_add]; exact ⟨(h.cells hi).1, (h.cells hi).2, hs i hi⟩⟩⟩

theorem Filled.made (w : World) (e : TypeId) (n : Nat) (S : Nat → ByteArray) (V : Nat → Int) (z : Array Value) : Filled (w.alloc (.cells (madeCells z (n * 2)) e)) w.heap.size e n 0 S V :=
  ⟨_, heap_alloc_new w _, size_madeCells _ _, fun i hi => by omega⟩

theorem copy_nil (w : World) : Calls Try.prog 19 #[.slice none 0 0] w fun e w' => e = .returned (.slice none 0 0) ∧ w' = w := by
  have hq := fun w => Lib.run_eql_slice_nil (P := Try.prog) w 30 44 none 0 0 0 0 Try.underlying30
  go_enter Try.func19, Try.ntmps19
  go_wp2
  go_ret
  exact ⟨rfl, rfl⟩

set_option maxHeartbeats 400000 in
theorem copy_any (a : Addr) (n cap : Nat) (S : Nat → ByteArray) (V : Nat → Int) (w : World) (h : Pairs w (some a) n S V) (hn : n ≤ 1048576) :
    Calls Try.prog 19 #[.slice (some a) n cap] w fun e w' => e = .returned (.slice (some ⟨w.heap.size, 0, none⟩) n n) ∧ Filled w' w.heap.size 44 n n S V ∧ Below w.heap.size w w' := by
  have hq := fun w => Lib.run_eql_slice_nil (P := Try.prog) w 30 44 (some a) n cap 0 0 Try.underlying30
  obtain ⟨i0, hi, hz0, hz1, hz2⟩ := info_parts Try.info44
  have hmk := run_make (P := Try.prog) w 30 44 i0 _ Try.underlying30 hi hz0 .i64 .i64 n n (by omega) (by omega) (by rw [hz2]; omega) (by omega)
  rw [hz1, Int.toNat_natCast] at hmk
  have hF := Filled.made w 44 n S V (Value.agg #[.string ByteArray.empty, .int .i64 0]).cells
  generalize Value.cells (Value.agg #[.string ByteArray.empty, .int .i64 0]) = z at hmk hF
  generalize madeCells z (n * 2) = mc at hmk hF
  obtain ⟨hm, hc⟩ := h
  unfold maxLen at hm hc
  have HC := hide hc
  clear hc hi hz0 hz1 hz2 i0
  go_enter Try.func19, Try.ntmps19
  go_wp2
  go_loopw [4] (fun i wr => ∃ k : Nat, k ≤ n ∧ i = .int .i64 k ∧ Filled wr w.heap.size 44 n k S V ∧ Below w.heap.size w wr) (fun i _ => n - (intOf i).toNat)
  case atStart => exact ⟨0, Nat.zero_le _, rfl, hF, (Below.refl _ _).alloc (Nat.le_refl _) _⟩
  case round =>
    clear hmk hF
    obtain ⟨k, hk, rfl, hf, hb⟩ := hrel
    by_cases hlt : k < n
    · obtain ⟨b, off, ha, hcc⟩ := HC.out (by omega)
      obtain rfl : a = ⟨b, off, none⟩ := by simpa using ha
      obtain ⟨c1, c2, c3⟩ := hcc k hlt
      have hbl := World.block_lt_of_cell? w _ c1
      have d1 := (hb.cell (p := ⟨b, off + k * 2, none⟩) hbl).trans c1
      have d2 := (hb.cell (p := ⟨b, off + k * 2 + 1, none⟩) hbl).trans c2
      obtain ⟨⟨v0, e0⟩, ⟨v1, e1⟩, f0, f1⟩ := hf.at hlt
      clear hcc c1 c2 ha
      go_wp2
      go_roundw
      case rel => exact ⟨k + 1, by omega, by go_num, hf.step hlt, (hb.setCell (by exact Nat.le_refl _) _).setCell (by exact Nat.le_refl _) _⟩
      case measure => simp [intOf]; omega
    · obtain rfl : k = n := by omega
      go_wp2
      go_ret
      exact ⟨rfl, hf, hb⟩

theorem toIV_nil (w : World) : Calls Try.prog 20 #[.slice none 0 0] w fun e w' => e = .returned (.slice none 0 0) ∧ w' = w := by
  have hq := fun w => Lib.run_eql_slice_nil (P := Try.prog) w 30 44 none 0 0 0 0 Try.underlying30
  go_enter Try.func20, Try.ntmps20
  go_wp2
  go_ret
  exact ⟨rfl, rfl⟩

set_option maxHeartbeats 400000 in
theorem toIV_any (a : Addr) (n cap : Nat) (S : Nat → ByteArray) (V : Nat → Int) (w : World) (h : Pairs w (some a) n S V) (hn : n ≤ 1048576) :
    Calls Try.prog 20 #[.slice (some a) n cap] w fun e w' => e = .returned (.slice (some ⟨w.heap.size, 0, none⟩) n n) ∧ Filled w' w.heap.size 45 n n S V ∧ Below w.heap.size w w' := by
  have hq := fun w => Lib.run_eql_slice_nil (P := Try.prog) w 30 44 (some a) n cap 0 0 Try.underlying30
  obtain ⟨i0, hi, hz0, hz1, hz2⟩ := info_parts Try.info45
  have hmk := run_make (P := Try.prog) w 35 45 i0 _ Try.underlying35 hi hz0 .i64 .i64 n n (by omega) (by omega) (by rw [hz2]; omega) (by omega)
  rw [hz1, Int.toNat_natCast] at hmk
  have hF := Filled.made w 45 n S V (Value.agg #[.string ByteArray.empty, .int .i64 0]).cells
  generalize Value.cells (Value.agg #[.string ByteArray.empty, .int .i64 0]) = z at hmk hF
  generalize madeCells z (n * 2) = mc at hmk hF
  obtain ⟨hm, hc⟩ := h
  unfold maxLen at hm hc
  have HC := hide hc
  clear hc hi hz0 hz1 hz2 i0
  go_enter Try.func20, Try.ntmps20
  go_wp2
  go_loopw [4] (fun i wr => ∃ k : Nat, k ≤ n ∧ i = .int .i64 k ∧ Filled wr w.heap.size 45 n k S V ∧ Below w.heap.size w wr) (fun i _ => n - (intOf i).toNat)
  case atStart => exact ⟨0, Nat.zero_le _, rfl, hF, (Below.refl _ _).alloc (Nat.le_refl _) _⟩
  case round =>
    clear hmk hF
    obtain ⟨k, hk, rfl, hf, hb⟩ := hrel
    by_cases hlt : k < n
    · obtain ⟨b, off, ha, hcc⟩ := HC.out (by omega)
      obtain rfl : a = ⟨b, off, none⟩ := by simpa using ha
      obtain ⟨c1, c2, c3⟩ := hcc k hlt
      have hbl := World.block_lt_of_cell? w _ c1
      have d1 := (hb.cell (p := ⟨b, off + k * 2, none⟩) hbl).trans c1
      have d2 := (hb.cell (p := ⟨b, off + k * 2 + 1, none⟩) hbl).trans c2
      obtain ⟨⟨v0, e0⟩, ⟨v1, e1⟩, f0, f1⟩ := hf.at hlt
      clear hcc c1 c2 ha
      go_wp2
      go_region
      go_wp2
      go_roundw
      case rel => exact ⟨k + 1, by omega, by go_num, hf.step hlt, ((hb.setCell (by exact Nat.le_refl _) _).setCell (by exact Nat.le_refl _) _).drew⟩
      case measure => simp [intOf]; omega
    · obtain rfl : k = n := by omega
      go_wp2
      go_ret
      exact ⟨rfl, hf, hb⟩
end Go.Proofs.Qxb6602841a
