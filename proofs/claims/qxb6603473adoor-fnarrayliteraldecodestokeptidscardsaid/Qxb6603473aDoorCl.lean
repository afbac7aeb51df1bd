import Derived.Test.Qxb6603473aDoorLit
import Derived.Deep.QuietTactic
import Derived.BigQuiet
namespace Go.Proofs.Qxb6603473aDoor
open Go.RowKit

theorem info9 : (Tryd.prog.info? 9).map (fun i => (i.zero, i.size, i.bytes)) = some (some (.string ⟨#[]⟩), 1, 16) := by kernel_rfl
theorem info5 : (Tryd.prog.info? 5).map (fun i => (i.zero, i.size, i.bytes)) = some (some (.int .u8 0), 1, 1) := by kernel_rfl

/-- ZZArrayLiteral. -/
theorem zz_literal (t : ByteArray) (x : Option Addr) (n cap : Nat) (S : Nat → ByteArray) (w : World) (h : StrsAt w x n S) (hn : n ≤ 131072) (hS : ∀ i, i < n → (S i).size ≤ 1048576) (hv : Vars w) :
    Calls Tryd.prog 7 #[.string t, .slice x n cap] w (LPost (lit t S n) w) := by
  have HL := hide (literal_at t x n cap S w h hn hS hv)
  clear h hS hv
  go_enter Tryd.func7, Tryd.ntmps7
  go_wp2_with fail
  refine HL.out.mono ?_
  rintro e w1 ⟨rfl, hb⟩
  have HB := hide hb
  clear hb HL
  go_wp2
  go_ret
  exact ⟨rfl, HB.out⟩

/-- The first n of S are short. -/
def Short (n : Nat) (S : Nat → ByteArray) : Prop := ∀ i, i < n → (S i).size ≤ 1048576
theorem Short.zero (S : Nat → ByteArray) : Short 0 S := fun i hi => by omega
theorem Short.step {k : Nat} {S : Nat → ByteArray} (h : Short k S) (h1 : (S k).size ≤ 1048576) : Short (k + 1) S := fun i hi => by
  by_cases e : i = k
  · subst e; exact h1
  · exact h i (by omega)

def BoolPost (p : Prop) (w : World) (e : Ending) (w' : World) : Prop := (e = .returned (.bool false) ∨ e = .returned (.bool true) ∧ p) ∧ w' = w

set_option maxHeartbeats 1000000 in
theorem bytes5 (t : ByteArray) (ht : t.size ≤ maxLen) (x : Option Addr) (n cap : Nat) (S : Nat → ByteArray) (w : World) (h : StrsAt w x n S) (hS : ∀ i, i < n → (S i).size ≤ maxLen) :
    Calls Tryd.prog 5 #[.string t, .slice x n cap] w (BoolPost (Short n S) w) := by
  obtain ⟨hm, hc⟩ := h
  unfold maxLen at hm ht
  have HC := hide hc
  have HS := hide hS
  clear hc hS
  go_enter Tryd.func5, Tryd.ntmps5
  go_wp2
  · go_ret
    exact ⟨.inl rfl, rfl⟩
  · go_ret
    exact ⟨.inl rfl, rfl⟩
  · go_ret
    exact ⟨.inl rfl, rfl⟩
  go_loop [5, 6] (fun z i => ∃ k : Nat, k ≤ n ∧ i = .int .i64 k ∧ (∃ z' : Int, z = .int .i64 z' ∧ 0 ≤ z' ∧ z' ≤ 1048576) ∧ Short k S) (fun _ i => n - (intOf i).toNat)
  case atStart => exact ⟨0, Nat.zero_le _, rfl, ⟨_, rfl, by omega, by omega⟩, Short.zero S⟩
  case round =>
    obtain ⟨k, hk, rfl, ⟨z, rfl, hz0, hz1⟩, HL⟩ := hrel
    by_cases hlt : k < n
    · obtain ⟨b, off, rfl, hcc⟩ := HC.out (by omega)
      have c1 := hcc k hlt
      have hl := HS.out k hlt
      unfold maxLen at hl
      clear hcc
      go_wp2
      · go_ret
        exact ⟨.inl rfl, rfl⟩
      · go_ret
        exact ⟨.inl rfl, rfl⟩
      · go_round
        case rel => exact ⟨k + 1, by omega, by go_num, ⟨_, rfl, by omega, by omega⟩, HL.step (by omega)⟩
        case measure => simp [intOf]; omega
    · obtain rfl : n = k := by omega
      go_wp2
      go_ret
      exact ⟨.inr ⟨rfl, trivial⟩, rfl⟩

set_option maxHeartbeats 1000000 in
theorem bytes10 (t : ByteArray) (ht : t.size ≤ maxLen) (x y : Option Addr) (n m cap cap' : Nat) (S T : Nat → ByteArray) (w : World) (h : StrsAt w x n S) (hS : ∀ i, i < n → (S i).size ≤ maxLen) (h' : StrsAt w y m T) (hT : ∀ i, i < m → (T i).size ≤ maxLen) :
    Calls Tryd.prog 10 #[.string t, .slice x n cap, .slice y m cap'] w (BoolPost (Short n S ∧ Short m T) w) := by
  obtain ⟨hm, hc⟩ := h
  obtain ⟨hm', hc'⟩ := h'
  unfold maxLen at hm hm' ht
  have HC := hide hc
  have HS := hide hS
  have HC' := hide hc'
  have HT := hide hT
  clear hc hS hc' hT
  go_enter Tryd.func10, Tryd.ntmps10
  go_wp2
  · go_ret
    exact ⟨.inl rfl, rfl⟩
  · go_ret
    exact ⟨.inl rfl, rfl⟩
  · go_ret
    exact ⟨.inl rfl, rfl⟩
  go_loop [7, 8] (fun z i => ∃ k : Nat, k ≤ n ∧ i = .int .i64 k ∧ (∃ z' : Int, z = .int .i64 z' ∧ 0 ≤ z' ∧ z' ≤ 1048576) ∧ Short k S) (fun _ i => n - (intOf i).toNat)
  case atStart => exact ⟨0, Nat.zero_le _, rfl, ⟨_, rfl, by omega, by omega⟩, Short.zero _⟩
  case round =>
    obtain ⟨k, hk, rfl, ⟨z, rfl, hz0, hz1⟩, HL⟩ := hrel
    by_cases hlt : k < n
    · obtain ⟨b, off, rfl, hcc⟩ := HC.out (by omega)
      have c1 := hcc k hlt
      have hl := HS.out k hlt
      unfold maxLen at hl
      clear hcc
      go_wp2
      · go_ret
        exact ⟨.inl rfl, rfl⟩
      · go_ret
        exact ⟨.inl rfl, rfl⟩
      · go_round
        case rel => exact ⟨k + 1, by omega, by go_num, ⟨_, rfl, by omega, by omega⟩, HL.step (by omega)⟩
        case measure => simp [intOf]; omega
    · obtain rfl : n = k := by omega
      go_wp2
      · go_ret
        exact ⟨.inl rfl, rfl⟩
      · go_ret
        exact ⟨.inl rfl, rfl⟩
      go_loop [7, 9] (fun z i => ∃ k : Nat, k ≤ m ∧ i = .int .i64 k ∧ (∃ z' : Int, z = .int .i64 z' ∧ 0 ≤ z' ∧ z' ≤ 1048576) ∧ Short k T) (fun _ i => m - (intOf i).toNat)
      case atStart => exact ⟨0, Nat.zero_le _, rfl, ⟨_, rfl, by omega, by omega⟩, Short.zero _⟩
      case round =>
        obtain ⟨j, hj, rfl, ⟨z', rfl, hy0, hy1⟩, HL'⟩ := hrel
        by_cases hlt' : j < m
        · obtain ⟨b, off, rfl, hcc⟩ := HC'.out (by omega)
          have c1 := hcc j hlt'
          have hl := HT.out j hlt'
          unfold maxLen at hl
          clear hcc
          go_wp2
          · go_ret
            exact ⟨.inl rfl, rfl⟩
          · go_ret
            exact ⟨.inl rfl, rfl⟩
          · go_round
            case rel => exact ⟨j + 1, by omega, by go_num, ⟨_, rfl, by omega, by omega⟩, HL'.step (by omega)⟩
            case measure => simp [intOf]; omega
        · obtain rfl : m = j := by omega
          go_wp2
          go_ret
          exact ⟨.inr ⟨rfl, trivial⟩, rfl⟩

/-! zzCloneStrings. -/

/-- Block B is a row of n strings, the first k of which are S. -/
def Filled (w : World) (B n k : Nat) (S : Nat → ByteArray) : Prop :=
  ∃ cur : Array Value, w.heap[B]? = some (.cells cur 9 (0, 0)) ∧ cur.size = n ∧ ∀ i, i < k → cur[i]? = some (.string (S i))

theorem Filled.at {w : World} {B n k : Nat} {S : Nat → ByteArray} (h : Filled w B n k S) {i : Nat} (hi : i < n) : (∃ v0, w.cell? ⟨B, i, none⟩ = some v0) ∧ w.frozen? ⟨B, i, none⟩ = false := by
  obtain ⟨cur, hb, hs, _⟩ := h
  refine ⟨⟨cur[i]'(by omega), ?_⟩, frozen_of_row _ _ _ _ _ hb⟩
  rw [cell_of_row _ _ _ _ _ _ hb]; simp

theorem Filled.step {w : World} {B n k : Nat} {S : Nat → ByteArray} (h : Filled w B n k S) (hk : k < n) : Filled (w.setCell ⟨B, k, none⟩ (.string (S k))) B n (k + 1) S := by
  obtain ⟨cur, hb, hs, hc⟩ := h
  refine ⟨_, heap_setCell_same _ _ _ _ _ _ hb, by simpa using hs, fun i hi => ?_⟩
  by_cases e : i = k
  · subst e; simp [Array.getElem?_setIfInBounds, hs]; omega
  · rw [← hc i (by omega)]; simp [Array.getElem?_setIfInBounds]; intro h; omega

theorem Filled.made (w : World) (n : Nat) (S : Nat → ByteArray) (z : Array Value) : Filled (w.alloc (.cells (madeCells z n) 9)) w.heap.size n 0 S :=
  ⟨_, heap_alloc_new w _, size_madeCells _ _, fun i hi => by omega⟩

theorem Filled.strs {w : World} {B n : Nat} {S : Nat → ByteArray} (h : Filled w B n n S) (hn : n ≤ maxLen) : StrsAt w (some ⟨B, 0, none⟩) n S := by
  obtain ⟨cur, hb, hs, hc⟩ := h
  refine ⟨hn, fun _ => ⟨B, 0, rfl, fun k hk => ?_⟩⟩
  rw [Nat.zero_add, cell_of_row _ _ _ _ _ _ hb]
  exact hc k hk

/-- What zzCloneStrings leaves. -/
def CPost (n : Nat) (S : Nat → ByteArray) (w : World) (e : Ending) (w' : World) : Prop :=
  ∃ x cap, e = .returned (.slice x n cap) ∧ StrsAt w' x n S ∧ Below w.heap.size w w'

set_option maxHeartbeats 1000000 in
theorem clone_at (x : Option Addr) (n cap : Nat) (S : Nat → ByteArray) (w : World) (h : StrsAt w x n S) (h0 : x = none → n = 0 ∧ cap = 0) (hn : n ≤ 65536) :
    Calls Tryd.prog 6 #[.slice x n cap] w (CPost n S w) := by
  have hq := fun w => Lib.run_eql_slice_nil (P := Tryd.prog) w 22 9 x n cap 0 0 Tryd.underlying22
  cases x with
  | none =>
    obtain ⟨rfl, rfl⟩ := h0 rfl
    have HA := hide h
    clear h
    go_enter Tryd.func6, Tryd.ntmps6
    go_wp2
    go_ret
    exact ⟨_, _, rfl, HA.out, Below.refl _ _⟩
  | some a =>
    obtain ⟨i0, hi, hz0, hz1, hz2⟩ := info_parts info9
    have hmk := run_make (P := Tryd.prog) w 22 9 i0 _ Tryd.underlying22 hi hz0 .i64 .i64 n n (by omega) (by omega) (by rw [hz2]; omega) (by omega)
    rw [hz1, Int.toNat_natCast, Nat.mul_one] at hmk
    have hF := Filled.made w n S (Value.string ⟨#[]⟩).cells
    generalize madeCells (Value.string ⟨#[]⟩).cells n = mc at hmk hF
    have HC := hide h.2
    have hm := h.1
    clear hi hz0 hz1 hz2 i0 h h0
    go_enter Tryd.func6, Tryd.ntmps6
    go_wp2
    go_loopw [4] (fun i wr => ∃ k : Nat, k ≤ n ∧ i = .int .i64 k ∧ Filled wr w.heap.size n k S ∧ Below w.heap.size w wr) (fun i _ => n - (intOf i).toNat)
    case atStart => exact ⟨0, Nat.zero_le _, rfl, hF, (Below.refl _ _).alloc (Nat.le_refl _) _⟩
    case round =>
      clear hmk hF
      obtain ⟨k, hk, rfl, hf, hb⟩ := hrel
      by_cases hlt : k < n
      · obtain ⟨b, off, ha, hcc⟩ := HC.out (by omega)
        obtain rfl : a = ⟨b, off, none⟩ := by simpa using ha
        have c1 := hcc k hlt
        have d1 := (hb.cell (p := ⟨b, off + k, none⟩) (World.block_lt_of_cell? w _ c1)).trans c1
        obtain ⟨⟨v0, g0⟩, f0⟩ := hf.at hlt
        have F1 := hide (hf.step hlt)
        clear hcc c1 ha hf
        go_wp2
        go_roundw
        case rel => exact ⟨k + 1, by omega, by go_num, F1.out, hb.setCell (by exact Nat.le_refl _) _⟩
        case measure => simp [intOf]; omega
      · obtain rfl : n = k := by omega
        go_wp2
        go_ret
        exact ⟨_, _, rfl, hf.strs hm, hb⟩
end Go.Proofs.Qxb6603473aDoor
