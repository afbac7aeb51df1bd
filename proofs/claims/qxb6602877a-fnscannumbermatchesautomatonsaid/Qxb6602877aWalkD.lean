import Derived.Test.Qxb6602877aWalkC
namespace Go.Proofs.Qxb6602877a
open Go.RowKit

theorem Try.info5 : (Try.prog.info? 5).map (fun i => (i.zero, i.size, i.bytes)) = some (some (.int .u8 0), 1, 1) := by kernel_rfl

set_option maxHeartbeats 400000 in
theorem zzscan_any (b off n cap : Nat) (C : Nat → Int) (i : Nat) (w : World) (hc : Bytes w b off n C) (hi : i < n) (hn : n ≤ 1048576) :
    Calls Try.prog 12 #[.slice (some ⟨b, off, none⟩) n cap, .int .i64 i] w (ScanPost (Num.scan C n i) w) := by
  go_enter Try.func12, Try.ntmps12
  go_wp2_with fail
  refine (scan_any b off n cap C i w hc hi hn).mono ?_
  rintro e w' ⟨rfl, hb⟩
  go_wp2
  go_ret2
  exact ⟨rfl, hb⟩

/-- The copy of n bytes into a new row. -/
theorem copied (b off n cap : Nat) (C : Nat → Int) (w : World) (mc : Array Value) (hs : mc.size = n) (hc : Bytes w b off n C) :
    ∃ W, (Builtin.copy_ #[22, 22] 3 #[.slice (some ⟨w.heap.size, 0, none⟩) n n, .slice (some ⟨b, off, none⟩) n cap]).run Try.prog (w.alloc (.cells mc 5)) = .ok (.int .i64 n) W ∧ Bytes W w.heap.size 0 n C ∧ Below w.heap.size w W := by
  have hlen : ((List.range n).map fun j => Value.int .u8 (C j)).length = Nat.min n n := by simp
  have hr := run_copy_row (P := Try.prog) (w.alloc (.cells mc 5)) 22 22 3 5 w.heap.size 0 n n ⟨b, off, none⟩ n cap mc 5 ((List.range n).map fun j => Value.int .u8 (C j)) Try.underlying22 (by kernel_rfl)
    (heap_alloc_new w _) hlen (fun j v hv => by
      have hj : j < n := by
        have := (List.getElem?_eq_some_iff.1 hv).1
        simpa using this
      rw [List.getElem?_map, List.getElem?_range hj] at hv
      simp at hv
      subst hv
      rw [Go.WideShapes.add_plain, World.cell?_alloc_past _ _ _ (by exact World.block_lt_of_cell? w _ (hc j hj))]
      exact hc j hj) (by simp [hs]) (fun v hv => by simp at hv; obtain ⟨j, _, rfl⟩ := hv; rfl)
  have hlen' : ((List.range n).map fun j => Value.int .u8 (C j)).length = n := by simp
  rw [hlen'] at hr
  refine ⟨_, hr, fun j hj => ?_, ?_⟩
  · rw [cell_of_row _ _ _ _ _ _ (setRow_heap _ _ mc _ 5 _ (heap_alloc_new w _))]
    rw [List.getElem?_toArray, List.take_zero, List.nil_append, List.getElem?_append_left (by rw [hlen']; omega), List.getElem?_map, List.getElem?_range (by omega)]
    simp
  · refine ⟨rfl, rfl, rfl, by simp, fun k hk => ?_⟩
    rw [setRow_other _ _ _ _ (by omega)]
    exact Below.heap_alloc w _ k hk

theorem bytes11 (x : Option Addr) (n cap : Nat) (i : Int) (w : World) (hn : n ≤ 1048576) : Calls Try.prog 11 #[.slice x n cap, .int .i64 i] w fun e w' => e = .returned (.bool true) ∧ w' = w := by
  go_enter Try.func11, Try.ntmps11
  go_wp2
  go_ret
  exact ⟨rfl, rfl⟩

theorem bytes11_no (x : Option Addr) (n cap : Nat) (i : Int) (w : World) (hm : n ≤ maxLen) (hn : 1048576 < n) : Calls Try.prog 11 #[.slice x n cap, .int .i64 i] w fun e w' => e = .returned (.bool false) ∧ w' = w := by
  unfold maxLen at hm
  go_enter Try.func11, Try.ntmps11
  go_wp2
  go_ret
  exact ⟨rfl, rfl⟩

set_option maxHeartbeats 1000000 in
theorem walk_in (b off n cap : Nat) (C : Nat → Int) (i : Nat) (w : World) (hc : Bytes w b off n C) (hi : i < n) (hn : n ≤ 1048576) :
    Calls Try.prog 3 #[.slice (some ⟨b, off, none⟩) n cap, .int .i64 i] w fun e w' => e = .returned (.bool true) ∧ Below w.heap.size w w' := by
  have hq := fun w => run_neq_slice_nil_any (P := Try.prog) w 22 5 (some ⟨b, off, none⟩) n cap 0 0 Try.underlying22
  obtain ⟨i0, hi0, hz0, hz1, hz2⟩ := info_parts Try.info5
  have hmk := run_make (P := Try.prog) w 22 5 i0 _ Try.underlying22 hi0 hz0 .i64 .i64 n n (by omega) (by omega) (by rw [hz2]; omega) (by omega)
  rw [hz1, Int.toNat_natCast, Nat.mul_one] at hmk
  have hms : (madeCells (Value.int .u8 0).cells n).size = n := size_madeCells _ _
  generalize madeCells (Value.int .u8 0).cells n = mc at hmk hms
  obtain ⟨W, hcp, hW, hbel⟩ := copied b off n cap C w mc hms hc
  have HW := hide hW
  clear hW hc hms hi0 hz0 hz1 hz2 i0
  go_enter Try.func3, Try.ntmps3
  go_wp2_with fail
  refine (bytes11 _ n cap i w hn).mono ?_
  rintro e w' ⟨rfl, rfl⟩
  go_wp2_with fail
  refine (zzscan_any w'.heap.size 0 n n C i W HW.out hi hn).mono ?_
  rintro e w1 ⟨rfl, hb1⟩
  have hB : w'.heap.size < W.heap.size := by
    have := World.block_lt_of_cell? W _ (HW.out i hi)
    exact this
  have HW1 : Hid (Bytes w1 w'.heap.size 0 n C) := fun j hj => (hb1.cell (p := ⟨w'.heap.size, 0 + j, none⟩) hB).trans (HW.out j hj)
  clear hcp hmk
  go_wp2_with fail
  refine (model_any w'.heap.size 0 n n C i w1 HW1.out hi hn).mono ?_
  rintro e w2 ⟨rfl, rfl⟩
  rw [Num.R0 hi]
  generalize Num.scan C n i = r at *
  obtain ⟨r1, r2⟩ := r
  go_wp2
  go_ret
  exact ⟨rfl, hbel.trans (hb1.mono hbel.size)⟩

theorem walk_out (x : Option Addr) (n cap : Nat) (i : Int) (w : World) (hm : n ≤ maxLen) (hi : i < 0 ∨ (n : Int) ≤ i ∨ 1048576 < n) :
    Calls Try.prog 3 #[.slice x n cap, .int .i64 i] w fun e w' => e = .returned (.bool true) ∧ Below w.heap.size w w' := by
  by_cases hn : n ≤ 1048576
  · by_cases h0 : i < 0
    · go_enter Try.func3, Try.ntmps3
      go_wp2_with fail
      refine (bytes11 _ n cap i w hn).mono ?_
      rintro e w' ⟨rfl, rfl⟩
      go_wp2_with fail
      go_ret
      exact ⟨rfl, Below.refl _ _⟩
    · have h1 : (n : Int) ≤ i := by omega
      clear hi
      go_enter Try.func3, Try.ntmps3
      go_wp2_with fail
      refine (bytes11 _ n cap i w hn).mono ?_
      rintro e w' ⟨rfl, rfl⟩
      go_wp2_with fail
      go_ret
      exact ⟨rfl, Below.refl _ _⟩
  · go_enter Try.func3, Try.ntmps3
    go_wp2_with fail
    refine (bytes11_no _ n cap i w hm (by omega)).mono ?_
    rintro e w' ⟨rfl, rfl⟩
    go_wp2_with fail
    go_ret
    exact ⟨rfl, Below.refl _ _⟩
end Go.Proofs.Qxb6602877a
