import Derived.Test.Qxb6603473aDoorCl
import Derived.Laws.BytesArg
namespace Go.Proofs.Qxb6603473aDoor
open Go.RowKit

theorem one_new {W : World} {B : Nat} (hB : B = W.heap.size) (x : Value) (e : TypeId) : ∀ j u, [x][j]? = some u → (W.alloc (.cells #[x] e)).cell? ((⟨B, 0, none⟩ : Addr).add j) = some u := by
  subst hB
  intro j u hj
  rw [Go.WideShapes.add_plain, Nat.zero_add, cell_of_row _ _ _ _ _ _ (heap_alloc_new W _)]
  simpa using hj
theorem one_str (z : ByteArray) : ∀ u, u ∈ [Value.string z] → u.oneCell' = true := by
  intro u hu
  simp at hu
  subst hu; rfl

def strs (S : Nat → ByteArray) : Nat → List Value
  | 0 => []
  | k + 1 => strs S k ++ [.string (S k)]
theorem strs_len (S : Nat → ByteArray) : ∀ k, (strs S k).length = k
  | 0 => rfl
  | k + 1 => by simp [strs, strs_len S k]
theorem strs_get (S : Nat → ByteArray) : ∀ k i, i < k → (strs S k)[i]? = some (.string (S i))
  | 0, i, h => by omega
  | k + 1, i, h => by
    simp only [strs]
    by_cases e : i = k
    · subst e
      rw [List.getElem?_append_right (by rw [strs_len]; omega), strs_len]; simp
    · rw [List.getElem?_append_left (by rw [strs_len]; omega)]
      exact strs_get S k i (by omega)

/-- The slice v is a row of the call's own that reads as S's first k. -/
structure SRow (w : World) (v : Value) (S : Nat → ByteArray) (k : Nat) (wr : World) : Prop where
  below : Below w.heap.size w wr
  own : wr.ownsRow w.heap.size 9 1 v k (strs S k)

theorem SRow.step {w wr w1 : World} {v v' : Value} {S : Nat → ByteArray} {k : Nat} (h : SRow w v S k wr) {o : Obj}
    (h1 : w1.ownsRow w.heap.size 9 1 v' (k + 1) (strs S k ++ [.string (S k)])) (hg : (wr.alloc o).grownBy w1 v.ownBlock) : SRow w v' S (k + 1) w1 :=
  ⟨(h.below.alloc h.below.size _).grown hg (by simp; have := h.below.size; omega) (fun j hj => (h.own.lt j hj).1), h1⟩

theorem SRow.strsAt {w wr : World} {v : Value} {S : Nat → ByteArray} {k : Nat} (h : SRow w v S k wr) (hk : k ≤ maxLen) : ∃ x cap, v = .slice x k cap ∧ StrsAt wr x k S := by
  rcases h.own.2 with ⟨rfl, rfl⟩ | ⟨g, cap, cur, rfl, hg, hb, hcap, hcm, hs, ht⟩
  · exact ⟨_, _, rfl, Nat.zero_le _, fun h => by omega⟩
  · refine ⟨_, _, rfl, hk, fun _ => ⟨g, 0, rfl, fun i hi => ?_⟩⟩
    have := h.own.cells (g := g) rfl i (.string (S i)) (strs_get S k i hi)
    rw [Go.WideShapes.add_plain] at this
    exact this

theorem SRow.mono {w wr wi : World} {v : Value} {S : Nat → ByteArray} {k : Nat} (h : SRow w v S k wr) (hb : Below wr.heap.size wr wi) : SRow w v S k wi := by
  refine ⟨h.below.trans (hb.mono h.below.size), h.own.1, ?_⟩
  rcases h.own.2 with h1 | ⟨g, cap, cur, e, hg, hc, r⟩
  · exact .inl h1
  · exact .inr ⟨g, cap, cur, e, hg, (hb.block _ (Array.getElem?_eq_some_iff.1 hc).1).trans hc, r⟩

/-- An empty slice just made. -/
theorem SRow.start (w : World) (S : Nat → ByteArray) : SRow w (.slice (some ⟨w.heap.size, 0, none⟩) 0 0) S 0 (w.alloc (.cells #[] 9)) :=
  ⟨(Below.refl _ _).alloc (Nat.le_refl _) _, rfl, .inr ⟨w.heap.size, 0, #[], rfl, Nat.le_refl _, heap_alloc_new w _, Nat.le_refl _, Nat.zero_le _, rfl, rfl⟩⟩

theorem one_byte (z : Int) : ∀ u, u ∈ [Value.int .u8 z] → u.oneCell' = true := by
  intro u hu
  simp at hu
  subst hu; rfl

/-- The first r bytes of s, as numbers. -/
def bts (s : ByteArray) : Nat → List Int
  | 0 => []
  | r + 1 => bts s r ++ [byteAt s r]
theorem bts_len (s : ByteArray) : ∀ r, (bts s r).length = r
  | 0 => rfl
  | r + 1 => by simp [bts, bts_len s r]
theorem bts_take (s : ByteArray) : ∀ r, r ≤ s.size → bts s r = (s.data.toList.take r).map fun b => (b.toNat : Int)
  | 0, _ => by simp [bts]
  | r + 1, h => by
    have hr : r < s.data.toList.length := by rw [Array.length_toList]; exact h
    rw [bts, bts_take s r (by omega), List.take_succ_eq_append_getElem hr, List.map_append]
    simp only [List.map_cons, List.map_nil, byteAt, List.getD, List.getElem?_eq_getElem hr, Option.getD_some]
theorem bts_all (s : ByteArray) : strOfNums (bts s s.size) = s := by
  refine bytes_ext ?_
  rw [strOfNums_data, bts_take s s.size (Nat.le_refl _), List.take_of_length_le (by rw [Array.length_toList]; exact Nat.le_refl _), List.map_map]
  conv => rhs; rw [← List.map_id s.data.toList]
  refine List.map_congr_left fun b _ => ?_
  simp

def vals (xs : List Int) : List Value := xs.map (Value.int .u8)
theorem vals_snoc (xs : List Int) (z : Int) : vals xs ++ [.int .u8 z] = vals (xs ++ [z]) := by simp [vals]

/-- The slice v is a row of the call's own that reads as the bytes xs. -/
structure BRow (w : World) (v : Value) (xs : List Int) (wr : World) : Prop where
  below : Below w.heap.size w wr
  own : wr.ownsRow w.heap.size 5 1 v xs.length (vals xs)

theorem BRow.start (w : World) : BRow w (.slice (some ⟨w.heap.size, 0, none⟩) 0 0) [] (w.alloc (.cells #[] 5)) :=
  ⟨(Below.refl _ _).alloc (Nat.le_refl _) _, rfl, .inr ⟨w.heap.size, 0, #[], rfl, Nat.le_refl _, heap_alloc_new w _, Nat.le_refl _, Nat.zero_le _, rfl, rfl⟩⟩
theorem BRow.step {w wr w1 : World} {v v' : Value} {xs : List Int} (h : BRow w v xs wr) {o : Obj} {z : Int}
    (h1 : w1.ownsRow w.heap.size 5 1 v' (xs.length + 1) (vals xs ++ [.int .u8 z])) (hg : (wr.alloc o).grownBy w1 v.ownBlock) : BRow w v' (xs ++ [z]) w1 :=
  ⟨(h.below.alloc h.below.size _).grown hg (by simp; have := h.below.size; omega) (fun j hj => (h.own.lt j hj).1), by rw [← vals_snoc]; simpa using h1⟩
theorem BRow.conv {w wr : World} {v : Value} {xs : List Int} (h : BRow w v xs wr) : (convert 32 9 v).run Tryd.prog wr = .ok (.string (strOfNums xs)) wr := by
  rcases h.own.2 with ⟨rfl, h0⟩ | ⟨g, cap, cur, rfl, _⟩
  · have : xs = [] := List.eq_nil_of_length_eq_zero h0
    subst this
    exact run_convert_bytes_nil wr 32 5 Tryd.underlying32 Tryd.underlying5 0 0 9 Tryd.underlying9
  · refine run_convert_bytes_arg wr 32 5 Tryd.underlying32 Tryd.underlying5 g 0 _ cap xs rfl (fun i hi => ?_) 9 Tryd.underlying9
    have := h.own.cells (g := g) rfl i (.int .u8 (xs.getD i 0)) (by simp [vals, List.getD, hi])
    rwa [Go.WideShapes.add_plain] at this
end Go.Proofs.Qxb6603473aDoor
