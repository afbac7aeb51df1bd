import Derived.Test.Qxb6603473aEnt
namespace Go.Proofs.Qxb6603473a
namespace Menu
open Go.RowKit

theorem info33 : (Try.prog.info? 33).map (fun i => (i.zero, i.size, i.bytes)) = some (some (.agg #[.string ByteArray.empty, .string ByteArray.empty, .string ByteArray.empty, .string ByteArray.empty, .string ByteArray.empty, .string ByteArray.empty, .int .i64 0, .string ByteArray.empty]), 8, 120) := by kernel_rfl
theorem info41 : (Try.prog.info? 41).map (fun i => (i.zero, i.size, i.bytes)) = some (some (.pointer none), 1, 8) := by kernel_rfl
theorem info47 : (Try.prog.info? 47).map (fun i => (i.zero, i.size, i.bytes)) = some (some (.pointer none), 1, 8) := by kernel_rfl

/-- Block B is a row of n entries, the first k of which are F. -/
def EFilled (w : World) (B n k : Nat) (F : Nat → Entry) : Prop :=
  ∃ cur : Array Value, w.heap[B]? = some (.cells cur 33 (0, 0)) ∧ cur.size = n * 8 ∧ ∀ i, i < k →
    cur[i * 8]? = some (.string (F i).code) ∧ cur[i * 8 + 1]? = some (.string (F i).platform) ∧ cur[i * 8 + 2]? = some (.string (F i).status) ∧ cur[i * 8 + 3]? = some (.string (F i).name) ∧
    cur[i * 8 + 4]? = some (.string (F i).type) ∧ cur[i * 8 + 5]? = some (.string (F i).parent) ∧ cur[i * 8 + 6]? = some (.int .i64 (F i).sort) ∧ cur[i * 8 + 7]? = some (.string (F i).url)

theorem EFilled.made (w : World) (n : Nat) (F : Nat → Entry) (z : Array Value) : EFilled (w.alloc (.cells (madeCells z (n * 8)) 33)) w.heap.size n 0 F :=
  ⟨_, heap_alloc_new w _, size_madeCells _ _, fun i hi => by omega⟩
theorem EFilled.at {w : World} {B n k : Nat} {F : Nat → Entry} (h : EFilled w B n k F) {i : Nat} (hi : i < n * 8) : (∃ v0, w.cell? ⟨B, i, none⟩ = some v0) ∧ w.frozen? ⟨B, i, none⟩ = false := by
  obtain ⟨cur, hb, hs, _⟩ := h
  refine ⟨⟨cur[i]'(by omega), ?_⟩, frozen_of_row _ _ _ _ _ hb⟩
  rw [cell_of_row _ _ _ _ _ _ hb]; simp
theorem EFilled.step {w : World} {B n k : Nat} {F : Nat → Entry} (h : EFilled w B n k F) (hk : k < n) :
    EFilled ((((((((w.setCell ⟨B, k * 8, none⟩ (.string (F k).code)).setCell ⟨B, k * 8 + 1, none⟩ (.string (F k).platform)).setCell ⟨B, k * 8 + 2, none⟩ (.string (F k).status)).setCell ⟨B, k * 8 + 3, none⟩ (.string (F k).name)).setCell
      ⟨B, k * 8 + 4, none⟩ (.string (F k).type)).setCell ⟨B, k * 8 + 5, none⟩ (.string (F k).parent)).setCell ⟨B, k * 8 + 6, none⟩ (.int .i64 (F k).sort)).setCell ⟨B, k * 8 + 7, none⟩ (.string (F k).url)) B n (k + 1) F := by
  obtain ⟨cur, hb, hs, hc⟩ := h
  refine ⟨_, heap_setCell_same _ _ _ _ _ _ (heap_setCell_same _ _ _ _ _ _ (heap_setCell_same _ _ _ _ _ _ (heap_setCell_same _ _ _ _ _ _ (heap_setCell_same _ _ _ _ _ _ (heap_setCell_same _ _ _ _ _ _ (heap_setCell_same _ _ _ _ _ _ (heap_setCell_same _ _ _ _ _ _ hb))))))), by simpa using hs, fun i hi => ?_⟩
  by_cases e : i = k
  · subst e
    refine ⟨?_, ?_, ?_, ?_, ?_, ?_, ?_, ?_⟩ <;> (simp [Array.getElem?_setIfInBounds, hs]; omega)
  · obtain ⟨h0, h1, h2, h3, h4, h5, h6, h7⟩ := hc i (by omega)
    refine ⟨?_, ?_, ?_, ?_, ?_, ?_, ?_, ?_⟩
    · rw [← h0]; repeat rw [Array.getElem?_setIfInBounds_ne (by omega)]
    · rw [← h1]; repeat rw [Array.getElem?_setIfInBounds_ne (by omega)]
    · rw [← h2]; repeat rw [Array.getElem?_setIfInBounds_ne (by omega)]
    · rw [← h3]; repeat rw [Array.getElem?_setIfInBounds_ne (by omega)]
    · rw [← h4]; repeat rw [Array.getElem?_setIfInBounds_ne (by omega)]
    · rw [← h5]; repeat rw [Array.getElem?_setIfInBounds_ne (by omega)]
    · rw [← h6]; repeat rw [Array.getElem?_setIfInBounds_ne (by omega)]
    · rw [← h7]; repeat rw [Array.getElem?_setIfInBounds_ne (by omega)]
theorem EFilled.entries {w : World} {B n : Nat} {F : Nat → Entry} (h : EFilled w B n n F) (hn : n ≤ maxLen) (hs : ∀ i, i < n → (F i).small) : Entries w (some ⟨B, 0, none⟩) n F := by
  obtain ⟨cur, hb, _, hc⟩ := h
  refine ⟨hn, fun _ => ⟨B, 0, rfl, fun i hi => ⟨?_, hs i hi⟩⟩⟩
  unfold EntryAt
  simp only [Nat.zero_add, cell_of_row _ _ _ _ _ _ hb]
  exact hc i hi

theorem Entries.small {w : World} {x : Option Addr} {n : Nat} {F : Nat → Entry} (h : Entries w x n F) : ∀ i, i < n → (F i).small := fun i hi => by
  obtain ⟨b, off, _, hc⟩ := h.2 (by omega)
  exact (hc i hi).2

def CPost (n : Nat) (F : Nat → Entry) (w : World) (e : Ending) (w' : World) : Prop := ∃ x', e = .returned (.slice x' n n) ∧ Entries w' x' n F ∧ Below w.heap.size w w'

theorem clone_nil (w : World) : Calls Try.prog 11 #[.slice none 0 0] w fun e w' => e = .returned (.slice none 0 0) ∧ w' = w := by
  have hq := fun w => Lib.run_eql_slice_nil (P := Try.prog) w 30 33 none 0 0 0 0 Try.underlying30
  go_enter Try.func11, Try.ntmps11
  go_wp2
  go_ret
  exact ⟨rfl, rfl⟩

set_option maxHeartbeats 1000000 in
theorem clone_any (a : Addr) (n cap : Nat) (F : Nat → Entry) (w : World) (h : Entries w (some a) n F) (hn : n ≤ 65536) :
    Calls Try.prog 11 #[.slice (some a) n cap] w fun e w' => e = .returned (.slice (some ⟨w.heap.size, 0, none⟩) n n) ∧ EFilled w' w.heap.size n n F ∧ Below w.heap.size w w' := by
  have hq := fun w => Lib.run_eql_slice_nil (P := Try.prog) w 30 33 (some a) n cap 0 0 Try.underlying30
  obtain ⟨i0, hi, hz0, hz1, hz2⟩ := info_parts info33
  have hmk := run_make (P := Try.prog) w 30 33 i0 _ Try.underlying30 hi hz0 .i64 .i64 n n (by omega) (by omega) (by rw [hz2]; omega) (by omega)
  rw [hz1, Int.toNat_natCast] at hmk
  generalize hzz : (Value.agg #[.string ByteArray.empty, .string ByteArray.empty, .string ByteArray.empty, .string ByteArray.empty, .string ByteArray.empty, .string ByteArray.empty, .int .i64 0, .string ByteArray.empty]).cells = zz at hmk
  have hF := EFilled.made w n F zz
  generalize madeCells zz (n * 8) = mc at hmk hF
  obtain ⟨hm, hc⟩ := h
  have HC := hide hc
  clear hc hi hz0 hz1 hz2 i0 hzz hm
  go_enter Try.func11, Try.ntmps11
  go_wp2
  go_loopw [4] (fun i wr => ∃ k : Nat, k ≤ n ∧ i = .int .i64 k ∧ EFilled wr w.heap.size n k F ∧ Below w.heap.size w wr) (fun i _ => n - (intOf i).toNat)
  case atStart => exact ⟨0, Nat.zero_le _, rfl, hF, (Below.refl _ _).alloc (Nat.le_refl _) _⟩
  case round =>
    clear hmk hF
    obtain ⟨k, hk, rfl, hf, hb⟩ := hrel
    by_cases hlt : k < n
    · obtain ⟨b, off, ha, hcc⟩ := HC.out (by omega)
      obtain rfl : a = ⟨b, off, none⟩ := by simpa using ha
      obtain ⟨h0, h1, h2, h3, h4, h5, h6, h7⟩ := (hcc k hlt).1.mono hb (hcc k hlt).1.lt
      obtain ⟨⟨v0, e0⟩, f0⟩ := hf.at (i := k * 8) (by omega)
      obtain ⟨⟨v1, e1⟩, f1⟩ := hf.at (i := k * 8 + 1) (by omega)
      obtain ⟨⟨v2, e2⟩, f2⟩ := hf.at (i := k * 8 + 2) (by omega)
      obtain ⟨⟨v3, e3⟩, f3⟩ := hf.at (i := k * 8 + 3) (by omega)
      obtain ⟨⟨v4, e4⟩, f4⟩ := hf.at (i := k * 8 + 4) (by omega)
      obtain ⟨⟨v5, e5⟩, f5⟩ := hf.at (i := k * 8 + 5) (by omega)
      obtain ⟨⟨v6, e6⟩, f6⟩ := hf.at (i := k * 8 + 6) (by omega)
      obtain ⟨⟨v7, e7⟩, f7⟩ := hf.at (i := k * 8 + 7) (by omega)
      have HS := hide (hf.step hlt)
      clear hcc ha hf
      go_wp2
      go_roundw
      case rel => exact ⟨k + 1, by omega, by go_num, HS.out, (((((((hb.setCell (by exact Nat.le_refl _) _).setCell (by exact Nat.le_refl _) _).setCell (by exact Nat.le_refl _) _).setCell (by exact Nat.le_refl _) _).setCell (by exact Nat.le_refl _) _).setCell (by exact Nat.le_refl _) _).setCell (by exact Nat.le_refl _) _).setCell (by exact Nat.le_refl _) _⟩
      case measure => simp [intOf]; omega
    · obtain rfl : k = n := by omega
      go_wp2
      go_ret
      exact ⟨rfl, hf, hb⟩

theorem clone_all (x : Option Addr) (n cap : Nat) (F : Nat → Entry) (w : World) (h : Entries w x n F) (hx : x = none → n = 0 ∧ cap = 0) (hn : n ≤ 65536) : Calls Try.prog 11 #[.slice x n cap] w (CPost n F w) := by
  cases x with
  | none =>
    obtain ⟨rfl, rfl⟩ := hx rfl
    refine (clone_nil w).mono ?_
    rintro e w' ⟨rfl, rfl⟩
    exact ⟨none, rfl, h, Below.refl _ _⟩
  | some a =>
    refine (clone_any a n cap F w h hn).mono ?_
    rintro e w' ⟨rfl, hc, hb⟩
    exact ⟨_, rfl, hc.entries h.1 h.small, hb⟩
end Menu
end Go.Proofs.Qxb6603473a
