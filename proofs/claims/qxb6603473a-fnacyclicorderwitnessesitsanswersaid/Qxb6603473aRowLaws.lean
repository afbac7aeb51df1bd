import Derived.Test.Qxb6603473aClone
namespace Go.Proofs.Qxb6603473a
open Go.RowKit Dfs

theorem grownBy_setCell (w : World) (a : Addr) (u : Value) : w.grownBy (w.setCell a u) (some a.block) :=
  ⟨rfl, rfl, rfl, by simp [World.setCell], fun k _ hk => heap_setCell_other w a k u (fun e => hk (by rw [e]))⟩

theorem own_setCell {w : World} {base : Nat} {e : TypeId} {size : Nat} {v : Value} {n : Nat} {xs : List Value} (h : w.ownsRow base e size v n xs) {a : Addr} (ha : v.ownBlock ≠ some a.block) (u : Value) : (w.setCell a u).ownsRow base e size v n xs :=
  h.kept (grownBy_setCell w a u) (.inr ha)

/-- A cell of an owned row stored into. -/
theorem own_set {w : World} {base : Nat} {e : TypeId} {size g cap n : Nat} {xs : List Value} (h : w.ownsRow base e size (.slice (some ⟨g, 0, none⟩) n cap) n xs) {j : Nat} (u : Value) :
    (w.setCell ⟨g, j, none⟩ u).ownsRow base e size (.slice (some ⟨g, 0, none⟩) n cap) n (xs.set j u) := by
  obtain ⟨h1, h2⟩ := h
  rcases h2 with ⟨h0, _⟩ | ⟨g', cap', cur, hv, hg, hh, hn, hcap, hsz, htake⟩
  · cases h0
  · cases hv
    refine ⟨by simpa using h1, .inr ⟨g, cap, _, rfl, hg, heap_setCell_same _ _ _ _ _ _ hh, hn, hcap, by simpa using hsz, ?_⟩⟩
    rw [Array.toList_setIfInBounds, List.take_set, htake]

theorem own_block {w : World} {base : Nat} {e : TypeId} {size : Nat} {v : Value} {n : Nat} {xs : List Value} (h : w.ownsRow base e size v n xs) {B : Nat} (hB : B < base) : v.ownBlock ≠ some B := fun he => by
  have := (h.lt B he).1
  omega

/-- Rows of two types lie in two blocks. -/
theorem own_apart {w : World} {base base' : Nat} {e e' : TypeId} {size size' : Nat} {v v' : Value} {n n' : Nat} {xs xs' : List Value} (h : w.ownsRow base e size v n xs) (h' : w.ownsRow base' e' size' v' n' xs') (hne : e ≠ e') : v.ownBlock = none ∨ v.ownBlock ≠ v'.ownBlock := by
  rcases h.2 with ⟨rfl, _⟩ | ⟨g, cap, cur, rfl, _, hg, _⟩
  · exact .inl rfl
  · right
    rcases h'.2 with ⟨rfl, _⟩ | ⟨g', cap', cur', rfl, _, hg', _⟩
    · simp [Value.ownBlock]
    · intro he
      simp [Value.ownBlock] at he
      subst he
      rw [hg] at hg'
      simp at hg'
      exact hne hg'.2

theorem own_cell {w : World} {base : Nat} {e : TypeId} {size g cap n : Nat} {xs : List Value} (h : w.ownsRow base e size (.slice (some ⟨g, 0, none⟩) n cap) n xs) {j : Nat} {u : Value} (hj : xs[j]? = some u) : w.cell? ⟨g, j, none⟩ = some u ∧ w.frozen? ⟨g, j, none⟩ = false := by
  have h1 := h.cells (g := g) rfl j u hj
  rw [Go.WideShapes.add_plain, Nat.zero_add] at h1
  refine ⟨h1, ?_⟩
  rcases h.2 with ⟨h0, _⟩ | ⟨g', cap', cur, hv, hg, hh, hn, hcap, hsz, htake⟩
  · cases h0
  · cases hv
    exact frozen_of_row _ _ _ _ _ hh

/-- What form an owned slice has: nil and empty, or at the head of its block. -/
theorem own_form {w : World} {base : Nat} {e : TypeId} {size : Nat} {v : Value} {n : Nat} {xs : List Value} (h : w.ownsRow base e size v n xs) (hn : 0 < n) : ∃ g cap, v = .slice (some ⟨g, 0, none⟩) n cap ∧ n ≤ cap ∧ cap ≤ maxLen := by
  rcases h.2 with ⟨_, h0⟩ | ⟨g, cap, cur, rfl, _, _, h1, h2, _⟩
  · omega
  · exact ⟨g, cap, rfl, h1, h2⟩

/-! ### The states -/
def StRow (w : World) (B n : Nat) (St : Nat → Nat) : Prop :=
  ∃ cur : Array Value, w.heap[B]? = some (.cells cur 5 (0, 0)) ∧ cur.size = n ∧ ∀ i, i < n → cur[i]? = some (.int .u8 (St i : Nat))

theorem StRow.made (w : World) (n : Nat) : StRow (w.alloc (.cells (madeCells (Value.int .u8 0).cells n) 5)) w.heap.size n (fun _ => 0) :=
  ⟨_, heap_alloc_new w _, size_madeCells _ _, fun i hi => by simp [madeCells, hi, Value.cells, Nat.mod_one]⟩
theorem StRow.cell {w : World} {B n : Nat} {St : Nat → Nat} (h : StRow w B n St) {i : Nat} (hi : i < n) : w.cell? ⟨B, i, none⟩ = some (.int .u8 (St i : Nat)) ∧ w.frozen? ⟨B, i, none⟩ = false := by
  obtain ⟨cur, hb, hs, hc⟩ := h
  rw [cell_of_row _ _ _ _ _ _ hb]
  exact ⟨hc i hi, frozen_of_row _ _ _ _ _ hb⟩
theorem StRow.set {w : World} {B n : Nat} {St : Nat → Nat} (h : StRow w B n St) {v : Nat} (hv : v < n) (x : Nat) : StRow (w.setCell ⟨B, v, none⟩ (.int .u8 (x : Nat))) B n (upd St v x) := by
  obtain ⟨cur, hb, hs, hc⟩ := h
  refine ⟨_, heap_setCell_same _ _ _ _ _ _ hb, by simpa using hs, fun i hi => ?_⟩
  by_cases e : i = v
  · subst e; rw [upd_same]; simp [Array.getElem?_setIfInBounds, hs]; omega
  · rw [upd_other _ e, ← hc i hi]; simp [Array.getElem?_setIfInBounds]; intro h; omega
theorem StRow.lt {w : World} {B n : Nat} {St : Nat → Nat} (h : StRow w B n St) : B < w.heap.size := by
  obtain ⟨cur, hb, _⟩ := h
  exact (Array.getElem?_eq_some_iff.1 hb).1
theorem StRow.kept {w w' : World} {B n : Nat} {St : Nat → Nat} {row : Option Nat} (h : StRow w B n St) (hg : w.grownBy w' row) (hne : row ≠ some B) : StRow w' B n St := by
  have hl := h.lt
  obtain ⟨cur, hb, hs, hc⟩ := h
  exact ⟨cur, (hg.block B hl (fun e => hne e.symm)).trans hb, hs, hc⟩
theorem StRow.alloc {w : World} {B n : Nat} {St : Nat → Nat} (h : StRow w B n St) (o : Obj) : StRow (w.alloc o) B n St := h.kept (World.grownBy_alloc w o none) (by simp)

/-! ### The cells -/
def ints (l : List Nat) : List Value := l.map fun x => Value.int .i64 (x : Nat)
def flatP : List (Nat × Nat) → List Value
  | [] => []
  | p :: r => .int .i64 (p.1 : Nat) :: .int .i64 (p.2 : Nat) :: flatP r
theorem flatP_append (A B : List (Nat × Nat)) : flatP (A ++ B) = flatP A ++ flatP B := by
  induction A with
  | nil => rfl
  | cons a A ih => simp [flatP, ih]
theorem length_flatP (A : List (Nat × Nat)) : (flatP A).length = A.length * 2 := by
  induction A with
  | nil => rfl
  | cons a A ih => simp [flatP, ih]; omega
theorem flatP_top (A : List (Nat × Nat)) (v x : Nat) : (flatP (A ++ [(v, x)]))[A.length * 2]? = some (.int .i64 (v : Nat)) ∧ (flatP (A ++ [(v, x)]))[A.length * 2 + 1]? = some (.int .i64 (x : Nat)) := by
  rw [flatP_append]
  constructor
  · rw [List.getElem?_append_right (by rw [length_flatP]; omega), length_flatP]; simp [flatP]
  · rw [List.getElem?_append_right (by rw [length_flatP]; omega), length_flatP]; simp [flatP]
theorem flatP_set (A : List (Nat × Nat)) (v x y : Nat) : (flatP (A ++ [(v, x)])).set (A.length * 2 + 1) (.int .i64 (y : Nat)) = flatP (A ++ [(v, y)]) := by
  rw [flatP_append, flatP_append, List.set_append_right _ _ (by rw [length_flatP]; omega), length_flatP]
  simp [flatP]
theorem flatP_node : ∀ (A : List (Nat × Nat)) (i : Nat), i < A.length → (flatP A)[i * 2]? = some (.int .i64 ((nodes A).getD i 0 : Nat)) ∧ (flatP A)[i * 2 + 1]? = some (.int .i64 ((A.getD i (0, 0)).2 : Nat))
  | a :: A, i, hi => by
    cases i with
    | zero => exact ⟨rfl, rfl⟩
    | succ i =>
      have ih := flatP_node A i (by simp at hi; omega)
      have e1 : (i + 1) * 2 = i * 2 + 1 + 1 := by omega
      simp only [flatP, nodes_cons, e1, List.getElem?_cons_succ, List.getD_cons_succ]
      exact ih
theorem length_ints (l : List Nat) : (ints l).length = l.length := by simp [ints]
end Go.Proofs.Qxb6603473a
