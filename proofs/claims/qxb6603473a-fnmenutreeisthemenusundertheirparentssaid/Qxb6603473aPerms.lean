import Derived.Test.Qxb6603473aEntB
namespace Go.Proofs.Qxb6603473a
namespace Menu
open Go.RowKit

/-- The block of a permission entry. -/
def permObj (f : Entry) : Obj := .cells #[.string f.code, .string f.platform, .string f.status, .string f.name, .string f.type, .string f.parent, .int .i64 f.sort, .string f.url] 46 (0, 0)

theorem perm_at {w : World} {b : Nat} {f : Entry} (h : w.heap[b]? = some (permObj f)) : EntryAt w b 0 f := by
  unfold permObj at h
  unfold EntryAt
  simp only [cell_of_row _ _ _ _ _ _ h]
  exact ⟨rfl, rfl, rfl, rfl, rfl, rfl, rfl, rfl⟩

def ptrs (l : List Nat) : List Value := l.map fun b => Value.pointer (some ⟨b, 0, none⟩)
theorem length_ptrs (l : List Nat) : (ptrs l).length = l.length := by simp [ptrs]
theorem ptrs_snoc (l : List Nat) (b : Nat) : ptrs (l ++ [b]) = ptrs l ++ [.pointer (some ⟨b, 0, none⟩)] := by simp [ptrs]
theorem ptrs_get (l : List Nat) {i : Nat} (hi : i < l.length) : (ptrs l)[i]? = some (.pointer (some ⟨l.getD i 0, 0, none⟩)) := by simp [ptrs, List.getD, hi]

/-- A slice of n pointers to permission entries reads as F. -/
def PermsAt (w : World) (x : Option Addr) (n : Nat) (F : Nat → Entry) : Prop :=
  n ≤ maxLen ∧ (0 < n → ∃ b, x = some ⟨b, 0, none⟩ ∧ ∀ i, i < n → ∃ pb, w.cell? ⟨b, i, none⟩ = some (.pointer (some ⟨pb, 0, none⟩)) ∧ EntryAt w pb 0 (F i))

theorem PermsAt.mono {w w' : World} {x : Option Addr} {n : Nat} {F : Nat → Entry} (h : PermsAt w x n F) {B : Nat} (hb : Below B w w') (hB : w.heap.size ≤ B) : PermsAt w' x n F := by
  refine ⟨h.1, fun h0 => ?_⟩
  obtain ⟨b, rfl, hc⟩ := h.2 h0
  refine ⟨b, rfl, fun i hi => ?_⟩
  obtain ⟨pb, h1, h2⟩ := hc i hi
  exact ⟨pb, (hb.cell (p := ⟨b, i, none⟩) (by exact Nat.lt_of_lt_of_le (World.block_lt_of_cell? w _ h1) hB)).trans h1, h2.mono hb (Nat.lt_of_lt_of_le h2.lt hB)⟩

theorem one_new {W : World} {B : Nat} (hB : B = W.heap.size) (x : Value) (e : TypeId) : ∀ j u, [x][j]? = some u → (W.alloc (.cells #[x] e)).cell? ((⟨B, 0, none⟩ : Addr).add j) = some u := by
  subst hB
  intro j u hj
  rw [Go.WideShapes.add_plain, Nat.zero_add, cell_of_row _ _ _ _ _ _ (heap_alloc_new W _)]
  simpa using hj
theorem ptr_cell (a : Addr) : ∀ u, u ∈ [Value.pointer (some a)] → u.oneCell' = true := by
  intro u hu
  simp at hu
  subst hu; rfl

/-- What the loop has made: k entries in blocks of their own, and the row of the pointers to them. -/
structure Made (w : World) (F : Nat → Entry) (n k : Nat) (v : Value) (wr : World) : Prop where
  some : v ≠ .slice none 0 0
  below : Below w.heap.size w wr
  blocks : ∃ l : List Nat, l.length = k ∧ wr.ownsRow w.heap.size 41 1 v k (ptrs l) ∧ ∀ i, i < k → wr.heap[l.getD i 0]? = Option.some (permObj (F i))

theorem Made.own {w wr : World} {F : Nat → Entry} {n k : Nat} {v : Value} (h : Made w F n k v wr) : ∃ l, wr.ownsRow w.heap.size 41 1 v k (ptrs l) := by
  obtain ⟨l, _, h2, _⟩ := h.blocks
  exact ⟨l, h2⟩

theorem Made.step {w wr w1 : World} {F : Nat → Entry} {n k : Nat} {v v' : Value} (h : Made w F n k v wr) {l : List Nat} (hl : l.length = k) (hown : wr.ownsRow w.heap.size 41 1 v k (ptrs l)) (hbl : ∀ i, i < k → wr.heap[l.getD i 0]? = Option.some (permObj (F i)))
    {o1 o2 : Obj} (hown1 : w1.ownsRow w.heap.size 41 1 v' (k + 1) (ptrs l ++ [.pointer (Option.some ⟨wr.heap.size + 1, 0, none⟩)])) (hg : (((wr.alloc o1).alloc (permObj (F k))).alloc o2).grownBy w1 v.ownBlock) (hne : v' ≠ .slice none 0 0) : Made w F n (k + 1) v' w1 := by
  have hsz := h.below.size
  have hbv : ∀ b f, wr.heap[b]? = Option.some (permObj f) → Option.some b ≠ v.ownBlock := fun b f hb e => by
    rcases hown.2 with ⟨rfl, _⟩ | ⟨g, cap, cur, rfl, _, hg', _⟩
    · simp [Value.ownBlock] at e
    · simp [Value.ownBlock] at e
      subst e
      rw [hb] at hg'
      simp [permObj] at hg'
  refine ⟨hne, (((h.below.alloc hsz _).alloc (by simp; omega) _).alloc (by simp; omega) _).grown hg (by simp; omega) (fun j hj => (hown.lt j hj).1), l ++ [wr.heap.size + 1], by simp [hl], by rw [ptrs_snoc]; exact hown1, fun i hi => ?_⟩
  by_cases e : i = k
  · subst e
    have e1 : (l ++ [wr.heap.size + 1]).getD i 0 = wr.heap.size + 1 := by simp [List.getD, ← hl]
    rw [e1, hg.block (wr.heap.size + 1) (by simp) (fun e => by have := (hown.lt _ e.symm).2; omega)]
    show ((((wr.heap.push _).push _).push _)[wr.heap.size + 1]?) = _
    rw [Array.getElem?_push, if_neg (by simp), Array.getElem?_push, if_pos (by simp)]
  · have hi' : i < k := by omega
    have e1 : (l ++ [wr.heap.size + 1]).getD i 0 = l.getD i 0 := by simp [List.getD, List.getElem?_append_left (show i < l.length by omega)]
    have hb := hbl i hi'
    rw [e1]
    generalize l.getD i 0 = q at hb
    have hlt := (Array.getElem?_eq_some_iff.1 hb).1
    rw [hg.block _ (by simp; omega) (hbv _ _ hb), Below.heap_alloc _ _ _ (by simp; omega), Below.heap_alloc _ _ _ (by simp; omega), Below.heap_alloc _ _ _ hlt]
    exact hb

theorem Made.perms {w wr : World} {F : Nat → Entry} {n : Nat} {v : Value} (h : Made w F n n v wr) (hn : n ≤ maxLen) : ∃ x cap, v = .slice (Option.some x) n cap ∧ PermsAt wr (Option.some x) n F := by
  obtain ⟨l, hl, hown, hbl⟩ := h.blocks
  rcases hown.2 with ⟨h0, _⟩ | ⟨g, cap, cur, rfl, _⟩
  · exact absurd h0 h.some
  · refine ⟨_, cap, rfl, hn, fun _ => ⟨g, rfl, fun i hi => ⟨l.getD i 0, ?_, perm_at (hbl i hi)⟩⟩⟩
    have := hown.cells (g := g) rfl i _ (ptrs_get l (by omega))
    rwa [Go.WideShapes.add_plain, Nat.zero_add] at this

def PPost (n : Nat) (F : Nat → Entry) (w : World) (e : Ending) (w' : World) : Prop := ∃ x cap, e = .returned (.slice (some x) n cap) ∧ PermsAt w' (some x) n F ∧ Below w.heap.size w w'

set_option maxHeartbeats 1000000 in
theorem perms_any (x : Option Addr) (n cap : Nat) (F : Nat → Entry) (w : World) (h : Entries w x n F) (hn : n ≤ 65536) : Calls Try.prog 13 #[.slice x n cap] w (PPost n F w) := by
  obtain ⟨i0, hi, hz0, hz1, hz2⟩ := info_parts info41
  obtain ⟨w2, hmk, ho2, hg2⟩ := run_make_own (P := Try.prog) w w.heap.size 37 41 i0 _ 1 Try.underlying37 hi hz0 hz1 .i64 .i64 n (by rw [hz2]; omega) (by unfold maxLen; omega) (Nat.le_refl _)
  have M0 : Made w F n 0 (.slice (some ⟨w.heap.size, 0, none⟩) 0 n) w2 :=
    ⟨by simp, (Below.refl _ _).grown hg2 (Nat.le_refl _) (fun k hk => by cases hk), [], rfl, by simpa [ptrs] using ho2, fun i hi => by omega⟩
  obtain ⟨hm, hc⟩ := h
  have HC := hide hc
  clear hc ho2 hg2
  go_enter Try.func13, Try.ntmps13
  go_wp2
  go_loopw [3, 4] (fun v i wr => ∃ k : Nat, k ≤ n ∧ i = .int .i64 k ∧ Made w F n k v wr) (fun _ i _ => n - (intOf i).toNat)
  case atStart => exact ⟨0, Nat.zero_le _, rfl, M0⟩
  case round =>
    clear hmk M0
    obtain ⟨k, hk, rfl, M⟩ := hrel
    by_cases hlt : k < n
    · obtain ⟨b, off, rfl, hcc⟩ := HC.out (by omega)
      obtain ⟨h0, h1, h2, h3, h4, h5, h6, h7⟩ := (hcc k hlt).1.mono M.below (hcc k hlt).1.lt
      obtain ⟨l, hl, hown, hbl⟩ := M.blocks
      have hwz := M.below.size
      have HB := hide hbl
      have HM := hide M
      clear hcc M hbl
      go_wp2_with (at_builtin; refine wpList_append_own _ rfl _ _ 37 rfl w.heap.size 41 i0 _ 1 8 Try.underlying37 hi hz0 hz1 hz2 rfl (by decide) _ _ _ rfl (((hown.alloc _).alloc _).alloc _) ⟨wr.heap.size + 2, 0, none⟩ 1 1 [.pointer (some ⟨wr.heap.size + 1, 0, none⟩)] rfl rfl (one_new (by simp) _ _) (ptr_cell _) (by unfold maxLen; omega) (by omega) (by simp; omega) ?_)
      intro v' w1 hown1 hg1 hne1
      have M1 := hide (HM.out.step hl hown HB.out hown1 hg1 hne1)
      clear hown1 hg1 hne1 hown h0 h1 h2 h3 h4 h5 h6 h7
      go_wp2
      go_roundw
      case rel => exact ⟨k + 1, by omega, by go_num, M1.out⟩
      case measure => simp [intOf]; omega
    · obtain rfl : k = n := by omega
      obtain ⟨x', cp, rfl, hp⟩ := M.perms hm
      have hb := M.below
      clear M
      go_wp2
      go_ret
      exact ⟨x', cp, rfl, hp, hb⟩
end Menu
end Go.Proofs.Qxb6603473a
