import Derived.Test.Qxb6603473aRows
import Derived.Test.Qxb6603473aDfs
import Derived.WalkKit
import Derived.WalkSpells
import Derived.WalkLawsBesides
import Derived.Deep.CutBlock
import Derived.Deep.DeepCutAuto
import Derived.Deep.LoopGhost
import Derived.Deep.Light
import Derived.Deep.QuietTactic
import Derived.BigQuiet
namespace Go.Proofs.Qxb6603473a
open Go.RowKit

theorem hide {p : Prop} (h : p) : Hid p := h

theorem Try.info24 : (Try.prog.info? 24).map (fun i => (i.zero, i.size, i.bytes)) = some (some (.slice none 0 0), 1, 24) := by kernel_rfl
theorem Try.info3 : (Try.prog.info? 3).map (fun i => (i.zero, i.size, i.bytes)) = some (some (.int .i64 0), 1, 8) := by kernel_rfl
theorem Try.info5 : (Try.prog.info? 5).map (fun i => (i.zero, i.size, i.bytes)) = some (some (.int .u8 0), 1, 1) := by kernel_rfl
theorem Try.info4 : (Try.prog.info? 4).map (fun i => (i.zero, i.size, i.bytes)) = some (some (.bool false), 1, 1) := by kernel_rfl
theorem Try.info53 : (Try.prog.info? 53).map (fun i => (i.zero, i.size, i.bytes)) = some (some (.agg #[.int .i64 0, .int .i64 0]), 2, 16) := by kernel_rfl

/-- A row of edges: the slice y of l numbers reads as the function f. -/
def RowAt (w : World) (y : Option Addr) (l : Nat) (f : Nat → Int) : Prop :=
  l ≤ maxLen ∧ (0 < l → ∃ b off, y = some ⟨b, off, none⟩ ∧ ∀ k, k < l → w.cell? ⟨b, off + k, none⟩ = some (.int .i64 (f k)))

/-- The slice x of n rows reads as the graph L, E. -/
def Graph (w : World) (x : Option Addr) (n : Nat) (L : Nat → Nat) (E : Nat → Nat → Int) : Prop :=
  n ≤ maxLen ∧ (0 < n → ∃ b off, x = some ⟨b, off, none⟩ ∧ ∀ i, i < n → ∃ y cp, w.cell? ⟨b, off + i, none⟩ = some (.slice y (L i) cp) ∧ (y = none → L i = 0 ∧ cp = 0) ∧ RowAt w y (L i) (E i))

theorem RowAt.mono {w w' : World} {y : Option Addr} {l : Nat} {f : Nat → Int} (h : RowAt w y l f) {B : Nat} (hb : Below B w w') (hB : w.heap.size ≤ B) : RowAt w' y l f := by
  refine ⟨h.1, fun h0 => ?_⟩
  obtain ⟨b, off, rfl, hc⟩ := h.2 h0
  exact ⟨b, off, rfl, fun k hk => (hb.cell (p := ⟨b, _, none⟩) (by exact Nat.lt_of_lt_of_le (World.block_lt_of_cell? w _ (hc k hk)) hB)).trans (hc k hk)⟩

theorem Graph.mono {w w' : World} {x : Option Addr} {n : Nat} {L : Nat → Nat} {E : Nat → Nat → Int} (h : Graph w x n L E) {B : Nat} (hb : Below B w w') (hB : w.heap.size ≤ B) : Graph w' x n L E := by
  refine ⟨h.1, fun h0 => ?_⟩
  obtain ⟨b, off, rfl, hc⟩ := h.2 h0
  refine ⟨b, off, rfl, fun i hi => ?_⟩
  obtain ⟨y, cp, c1, c2, c3⟩ := hc i hi
  exact ⟨y, cp, (hb.cell (p := ⟨b, _, none⟩) (by exact Nat.lt_of_lt_of_le (World.block_lt_of_cell? w _ c1) hB)).trans c1, c2, c3.mono hb hB⟩

def BytesPost (n : Nat) (L : Nat → Nat) (w : World) (e : Ending) (w' : World) : Prop :=
  (e = .returned (.bool false) ∨ e = .returned (.bool true) ∧ n ≤ 1048576 ∧ ∀ i, i < n → L i ≤ 1048576) ∧ w' = w

set_option maxHeartbeats 400000 in
theorem bytes6 (x : Option Addr) (n cap : Nat) (L : Nat → Nat) (E : Nat → Nat → Int) (w : World) (h : Graph w x n L E) :
    Calls Try.prog 6 #[.slice x n cap] w (BytesPost n L w) := by
  obtain ⟨hm, hc⟩ := h
  unfold maxLen at hm
  have HC := hide hc
  clear hc
  go_enter Try.func6, Try.ntmps6
  go_wp2
  · go_ret
    exact ⟨.inl rfl, rfl⟩
  go_loop [3, 4] (fun z i => ∃ k : Nat, k ≤ n ∧ i = .int .i64 k ∧ (∃ z' : Int, z = .int .i64 z' ∧ 0 ≤ z' ∧ z' ≤ 1048576) ∧ Hid (∀ i, i < k → L i ≤ 1048576)) (fun _ i => n - (intOf i).toNat)
  case atStart => exact ⟨0, Nat.zero_le _, rfl, ⟨_, rfl, by omega, by omega⟩, fun i hi => by omega⟩
  case round =>
    obtain ⟨k, hk, rfl, ⟨z, rfl, hz0, hz1⟩, HL⟩ := hrel
    by_cases hlt : k < n
    · obtain ⟨b, off, rfl, hcc⟩ := HC.out (by omega)
      obtain ⟨y, cp, c1, c2, c3⟩ := hcc k hlt
      have hl := c3.1
      unfold maxLen at hl
      clear hcc c2 c3
      go_wp2
      · go_ret
        exact ⟨.inl rfl, rfl⟩
      · go_ret
        exact ⟨.inl rfl, rfl⟩
      · go_round
        case rel => exact ⟨k + 1, by omega, by go_num, ⟨_, rfl, by omega, by omega⟩, fun i hi => by
          by_cases e : i = k
          · subst e; omega
          · exact HL.out i (by omega)⟩
        case measure => simp [intOf]; omega
    · obtain rfl : k = n := by omega
      go_wp2
      go_ret
      exact ⟨.inr ⟨rfl, by omega, HL.out⟩, rfl⟩

set_option maxHeartbeats 400000 in
theorem hasEdge (x : Option Addr) (n cap : Nat) (L : Nat → Nat) (E : Nat → Nat → Int) (f e0 : Nat) (t : Int) (w : World) (h : Graph w x n L E) (hf : f < n) (he : e0 < L f) (ht : E f e0 = t) :
    Calls Try.prog 9 #[.slice x n cap, .int .i64 f, .int .i64 t] w fun e w' => e = .returned (.bool true) ∧ w' = w := by
  obtain ⟨hm, hc⟩ := h
  unfold maxLen at hm
  obtain ⟨b, off, rfl, hcc⟩ := hc (by omega)
  obtain ⟨y, cp, c1, c2, c3⟩ := hcc f hf
  obtain ⟨hl, hr⟩ := c3
  unfold maxLen at hl
  obtain ⟨b', off', rfl, hrow⟩ := hr (by omega)
  have HR := hide hrow
  have HT := hide ht
  clear hcc hr c2 hc hrow ht
  go_enter Try.func9, Try.ntmps9
  go_wp2
  go_loop [7] (fun i => ∃ k : Nat, k ≤ e0 ∧ i = .int .i64 k) (fun i => e0 + 1 - (intOf i).toNat)
  case atStart => exact ⟨0, Nat.zero_le _, rfl⟩
  case round =>
    obtain ⟨k, hk, rfl⟩ := hrel
    have d1 := HR.out k (by omega)
    cases hb : (E f k == t) with
    | true =>
      go_wp2
      go_ret
      exact ⟨rfl, rfl⟩
    | false =>
      have hne : k ≠ e0 := fun e => by
        have h1 := beq_eq_false_iff_ne.1 hb
        rw [e] at h1
        exact h1 HT.out
      go_wp2
      go_round
      case rel => exact ⟨k + 1, by omega, by go_num⟩
      case measure => simp [intOf]; omega
end Go.Proofs.Qxb6603473a
