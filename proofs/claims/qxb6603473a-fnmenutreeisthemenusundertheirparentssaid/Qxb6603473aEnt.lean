import Derived.Test.Qxb6603473aRows
import Derived.WalkKit
import Derived.WalkSpells
import Derived.WalkLawsBesides
import Derived.Maps.OwnSet
import Derived.Maps.AppendAt
import Derived.Deep.CutBlock
import Derived.Deep.DeepCutAuto
import Derived.Deep.LoopGhost
import Derived.Deep.Light
import Derived.Deep.QuietTactic
import Derived.BigQuiet
namespace Go.Proofs.Qxb6603473a
namespace Menu
open Go.RowKit

theorem hide {p : Prop} (h : p) : Hid p := h

/-- An entry: its seven texts and its number. -/
structure Entry where
  code : ByteArray
  platform : ByteArray
  status : ByteArray
  name : ByteArray
  type : ByteArray
  parent : ByteArray
  sort : Int
  url : ByteArray

def Entry.small (e : Entry) : Prop := e.code.size ≤ maxLen ∧ e.platform.size ≤ maxLen ∧ e.status.size ≤ maxLen ∧ e.name.size ≤ maxLen ∧ e.type.size ≤ maxLen ∧ e.parent.size ≤ maxLen ∧ e.url.size ≤ maxLen

/-- The eight cells of an entry at offset o of block b. -/
def EntryAt (w : World) (b o : Nat) (e : Entry) : Prop :=
  w.cell? ⟨b, o, none⟩ = some (.string e.code) ∧ w.cell? ⟨b, o + 1, none⟩ = some (.string e.platform) ∧ w.cell? ⟨b, o + 2, none⟩ = some (.string e.status) ∧ w.cell? ⟨b, o + 3, none⟩ = some (.string e.name) ∧
  w.cell? ⟨b, o + 4, none⟩ = some (.string e.type) ∧ w.cell? ⟨b, o + 5, none⟩ = some (.string e.parent) ∧ w.cell? ⟨b, o + 6, none⟩ = some (.int .i64 e.sort) ∧ w.cell? ⟨b, o + 7, none⟩ = some (.string e.url)

def Entries (w : World) (x : Option Addr) (n : Nat) (F : Nat → Entry) : Prop :=
  n ≤ maxLen ∧ (0 < n → ∃ b off, x = some ⟨b, off, none⟩ ∧ ∀ i, i < n → EntryAt w b (off + i * 8) (F i) ∧ (F i).small)

theorem EntryAt.lt {w : World} {b o : Nat} {e : Entry} (h : EntryAt w b o e) : b < w.heap.size := World.block_lt_of_cell? w _ h.1
theorem EntryAt.mono {w w' : World} {b o : Nat} {e : Entry} (h : EntryAt w b o e) {B : Nat} (hb : Below B w w') (hB : b < B) : EntryAt w' b o e := by
  obtain ⟨h0, h1, h2, h3, h4, h5, h6, h7⟩ := h
  exact ⟨(hb.cell (p := ⟨b, _, none⟩) hB).trans h0, (hb.cell (p := ⟨b, _, none⟩) hB).trans h1, (hb.cell (p := ⟨b, _, none⟩) hB).trans h2, (hb.cell (p := ⟨b, _, none⟩) hB).trans h3,
    (hb.cell (p := ⟨b, _, none⟩) hB).trans h4, (hb.cell (p := ⟨b, _, none⟩) hB).trans h5, (hb.cell (p := ⟨b, _, none⟩) hB).trans h6, (hb.cell (p := ⟨b, _, none⟩) hB).trans h7⟩
theorem Entries.mono {w w' : World} {x : Option Addr} {n : Nat} {F : Nat → Entry} (h : Entries w x n F) {B : Nat} (hb : Below B w w') (hB : w.heap.size ≤ B) : Entries w' x n F := by
  refine ⟨h.1, fun h0 => ?_⟩
  obtain ⟨b, off, rfl, hc⟩ := h.2 h0
  exact ⟨b, off, rfl, fun i hi => ⟨(hc i hi).1.mono hb (Nat.lt_of_lt_of_le (hc i hi).1.lt hB), (hc i hi).2⟩⟩

set_option maxHeartbeats 1000000 in
set_option maxRecDepth 100000 in
theorem bytes10 (x : Option Addr) (n cap : Nat) (F : Nat → Entry) (w : World) (h : Entries w x n F) :
    Calls Try.prog 10 #[.slice x n cap] w fun e w' => (e = .returned (.bool true) ∨ e = .returned (.bool false)) ∧ w' = w := by
  obtain ⟨hm, hc⟩ := h
  unfold maxLen at hm
  have HC := hide hc
  clear hc
  go_enter Try.func10, Try.ntmps10
  go_wp2
  · go_ret
    exact ⟨.inr rfl, rfl⟩
  go_loop [3, 4] (fun z i => ∃ k : Nat, k ≤ n ∧ i = .int .i64 k ∧ ∃ z' : Int, z = .int .i64 z' ∧ 0 ≤ z' ∧ z' ≤ 1048576) (fun _ i => n - (intOf i).toNat)
  case atStart => exact ⟨0, Nat.zero_le _, rfl, _, rfl, by omega, by omega⟩
  case round =>
    obtain ⟨k, hk, rfl, z, rfl, hz0, hz1⟩ := hrel
    by_cases hlt : k < n
    · obtain ⟨b, off, rfl, hcc⟩ := HC.out (by omega)
      obtain ⟨⟨h0, h1, h2, h3, h4, h5, h6, h7⟩, s0, s1, s2, s3, s4, s5, s7⟩ := hcc k hlt
      unfold maxLen at s0 s1 s2 s3 s4 s5 s7
      generalize F k = f at *
      obtain ⟨f0, f1, f2, f3, f4, f5, f6, f7⟩ := f
      simp only at h0 h1 h2 h3 h4 h5 h6 h7 s0 s1 s2 s3 s4 s5 s7
      clear hcc h6
      go_wp2
      all_goals first
        | (go_ret; exact ⟨.inr rfl, rfl⟩)
        | skip
      go_round
      case rel => exact ⟨k + 1, by omega, by go_num, _, rfl, by omega, by omega⟩
      case measure => simp [intOf]; omega
    · go_wp2
      go_ret
      exact ⟨.inl rfl, rfl⟩
end Menu
end Go.Proofs.Qxb6603473a
