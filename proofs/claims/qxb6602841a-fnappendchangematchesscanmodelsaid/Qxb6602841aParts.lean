import Derived.Test.Qxb6602841aRows
import Derived.WalkKit
import Derived.WalkSpells
import Derived.WalkLawsBesides
import Derived.Maps.OwnSet
namespace Go.Proofs.Qxb6602841a
open Go.RowKit

theorem hide {p : Prop} (h : p) : Hid p := h

/-- The slice at x of n pairs reads, in w, as the pairs (S i, V i). -/
def Pairs (w : World) (x : Option Addr) (n : Nat) (S : Nat → ByteArray) (V : Nat → Int) : Prop :=
  n ≤ maxLen ∧ (0 < n → ∃ b off, x = some ⟨b, off, none⟩ ∧
    ∀ i, i < n → w.cell? ⟨b, off + i * 2, none⟩ = some (.string (S i)) ∧ w.cell? ⟨b, off + i * 2 + 1, none⟩ = some (.int .i64 (V i)) ∧ (S i).size ≤ maxLen)

theorem Pairs.mono {w w' : World} {x : Option Addr} {n : Nat} {S : Nat → ByteArray} {V : Nat → Int} (h : Pairs w x n S V) {B : Nat} (hb : Below B w w') (hB : w.heap.size ≤ B) : Pairs w' x n S V := by
  refine ⟨h.1, fun h0 => ?_⟩
  obtain ⟨b, off, rfl, hc⟩ := h.2 h0
  refine ⟨b, off, rfl, fun i hi => ?_⟩
  obtain ⟨h1, h2, h3⟩ := hc i hi
  have hlt := World.block_lt_of_cell? w _ h1
  exact ⟨(hb.cell (p := ⟨b, _, none⟩) (by exact Nat.lt_of_lt_of_le hlt hB)).trans h1, (hb.cell (p := ⟨b, _, none⟩) (by exact Nat.lt_of_lt_of_le hlt hB)).trans h2, h3⟩

set_option maxHeartbeats 400000 in
theorem room_any (x : Option Addr) (n cap : Nat) (S : Nat → ByteArray) (V : Nat → Int) (r : Int) (w : World) (h : Pairs w x n S V) :
    Calls Try.prog 26 #[.slice x n cap, .int .i64 r] w fun e w' => (∃ r', e = .returned (.int .i64 r')) ∧ w' = w := by
  obtain ⟨hm, hc⟩ := h
  unfold maxLen at hm hc
  have HC := hide hc
  clear hc
  go_enter Try.func26, Try.ntmps26
  go_wp2
  go_loop [1, 5] (fun r i => ∃ k : Nat, k ≤ n ∧ i = .int .i64 k ∧ ∃ r', r = .int .i64 r') (fun _ i => n - (intOf i).toNat)
  case atStart => exact ⟨0, Nat.zero_le _, rfl, _, rfl⟩
  case round =>
    obtain ⟨k, hk, rfl, r', rfl⟩ := hrel
    by_cases hlt : k < n
    · obtain ⟨b, off, rfl, hcc⟩ := HC.out (by omega)
      obtain ⟨c1, c2, c3⟩ := hcc k hlt
      clear hcc
      go_wp2
      · go_ret
        exact ⟨⟨_, rfl⟩, rfl⟩
      · go_ret
        exact ⟨⟨_, rfl⟩, rfl⟩
      · go_round
        case rel => exact ⟨k + 1, by omega, by go_num, _, rfl⟩
        case measure => simp [intOf]; omega
    · go_wp2
      go_ret
      exact ⟨⟨_, rfl⟩, rfl⟩

set_option maxHeartbeats 400000 in
theorem within_any (x0 x1 x2 : Option Addr) (n0 n1 n2 cap0 cap1 cap2 : Nat) (S0 S1 S2 : Nat → ByteArray) (V0 V1 V2 : Nat → Int) (w : World) (h0 : Pairs w x0 n0 S0 V0) (h1 : Pairs w x1 n1 S1 V1) (h2 : Pairs w x2 n2 S2 V2) :
    Calls Try.prog 18 #[.slice x0 n0 cap0, .slice x1 n1 cap1, .slice x2 n2 cap2] w fun e w' => (∃ b, e = .returned (.bool b)) ∧ w' = w := by
  go_enter Try.func18, Try.ntmps18
  go_wp2_with fail
  refine (room_any _ _ _ _ _ _ _ h0).mono ?_
  rintro e w1 ⟨⟨r1, rfl⟩, rfl⟩
  go_wp2_with fail
  · go_ret
    exact ⟨⟨_, rfl⟩, rfl⟩
  refine (room_any _ _ _ _ _ _ _ h1).mono ?_
  rintro e w1 ⟨⟨r2, rfl⟩, rfl⟩
  go_wp2_with fail
  · go_ret
    exact ⟨⟨_, rfl⟩, rfl⟩
  refine (room_any _ _ _ _ _ _ _ h2).mono ?_
  rintro e w1 ⟨⟨r3, rfl⟩, rfl⟩
  go_wp2
  go_ret
  exact ⟨⟨_, rfl⟩, rfl⟩

/-- The last of the first n pairs whose item is s. -/
def lastR (S : Nat → ByteArray) (V : Nat → Int) (s : ByteArray) : Nat → Option Int
  | 0 => none
  | n + 1 => if ((S n).toList == s.toList) = true then some (V n) else lastR S V s n

set_option maxHeartbeats 400000 in
theorem last_any (x : Option Addr) (n cap : Nat) (S : Nat → ByteArray) (V : Nat → Int) (s : ByteArray) (w : World) (h : Pairs w x n S V) :
    Calls Try.prog 22 #[.slice x n cap, .string s] w fun e w' => e = .returned (.tuple #[.int .i64 ((lastR S V s n).getD 0), .bool (lastR S V s n).isSome]) ∧ w' = w := by
  obtain ⟨hm, hc⟩ := h
  unfold maxLen at hm hc
  have HC := hide hc
  clear hc
  go_enter Try.func22, Try.ntmps22
  go_wp2
  go_loop [6] (fun i => ∃ k : Nat, k ≤ n ∧ i = .int .i64 (k - 1) ∧ Hid (lastR S V s n = lastR S V s k)) (fun i => (intOf i + 1).toNat)
  case atStart => exact ⟨n, Nat.le_refl _, rfl, rfl⟩
  case round =>
    obtain ⟨k, hk, rfl, Hl⟩ := hrel
    cases k with
    | zero =>
      go_wp2
      go_ret2
      exact ⟨by rw [Hl.out]; rfl, rfl⟩
    | succ k =>
      obtain ⟨b, off, rfl, hcc⟩ := HC.out (by omega)
      obtain ⟨c1, c2, c3⟩ := hcc k (by omega)
      clear hcc
      simp only [show (((k + 1 : Nat) : Int) - 1) = (k : Int) by omega]
      cases hs : ((S k).toList == s.toList) with
      | true =>
        go_wp2
        go_ret2
        exact ⟨by rw [Hl.out]; simp only [lastR, hs, if_true]; rfl, rfl⟩
      | false =>
        go_wp2
        go_round
        case rel => exact ⟨k, by omega, by go_num, by rw [Hl.out]; simp only [lastR, hs]; rfl⟩
        case measure => simp [intOf]
end Go.Proofs.Qxb6602841a
