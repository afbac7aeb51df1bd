import Derived.Test.Qxb6603715aRows
import Derived.WalkKit
import Derived.WalkSpells
import Derived.WalkLawsBesides
import Derived.OwnWalk
import Derived.Below
import Derived.Laws.BytesArg
import Derived.Deep.CutBlock
import Derived.Deep.DeepCutAuto
import Derived.Deep.Light
namespace Go.Proofs.Qxb6603715a
namespace Uri
open Go.RowKit

theorem hide {p : Prop} (h : p) : Hid p := h
theorem info5 : (Try.prog.info? 5).map (fun i => (i.zero, i.size, i.bytes)) = some (some (.int .u8 0), 1, 1) := by kernel_rfl

/-- The hexadecimal sign of v. -/
def hexc (v : Int) (up : Bool) : Int := if v < 10 then 48 + v else if up then 55 + v else 87 + v

theorem hexc_lo {v : Int} {up : Bool} (h0 : 0 ≤ v) (h1 : v < 16) : 48 ≤ hexc v up ∧ hexc v up ≤ 102 := by
  unfold hexc; cases up <;> simp <;> split <;> omega

theorem ret_int {k : IntKind} {a b : Int} (h : a = b) : Ending.returned (.int k a) = .returned (.int k b) := by rw [h]

set_option maxHeartbeats 400000 in
theorem hexchar_any (v : Int) (up : Bool) (h0 : 0 ≤ v) (h1 : v < 16) (w : World) : Calls Try.prog 14 #[.int .u8 v, .bool up] w fun e w' => e = .returned (.int .u8 (hexc v up)) ∧ w' = w := by
  cases up <;> by_cases h : v < 10
  all_goals
    go_enter Try.func14, Try.ntmps14
    go_wp2
    go_ret
    refine ⟨ret_int ?_, rfl⟩
    unfold hexc
    simp [h]
    try omega

set_option maxHeartbeats 400000 in
theorem hexdigit_at (c v : Int) (hc : (97 ≤ c ∧ c ≤ 102 ∧ v = c - 87) ∨ (65 ≤ c ∧ c ≤ 70 ∧ v = c - 55) ∨ (48 ≤ c ∧ c ≤ 57 ∧ v = c - 48)) (w : World) : Calls Try.prog 18 #[.int .u8 c] w fun e w' => e = .returned (.int .u8 v) ∧ w' = w := by
  by_cases ha : 97 ≤ c
  · go_enter Try.func18, Try.ntmps18
    go_wp2
    go_ret
    refine ⟨ret_int ?_, rfl⟩
    omega
  · by_cases hb : 65 ≤ c
    all_goals
      go_enter Try.func18, Try.ntmps18
      go_wp2
      go_ret
      refine ⟨ret_int ?_, rfl⟩
      omega

theorem hexdigit_any (v : Int) (up : Bool) (h0 : 0 ≤ v) (h1 : v < 16) (w : World) : Calls Try.prog 18 #[.int .u8 (hexc v up)] w fun e w' => e = .returned (.int .u8 v) ∧ w' = w := by
  refine hexdigit_at _ _ ?_ w
  unfold hexc
  cases up <;> simp <;> split <;> omega

/-- Is the byte written as it is? -/
def bare (all : Bool) (c : Int) : Bool := !(all || c == 37 || decide (c < 33) || decide (126 < c))

/-- What is written for a byte. -/
def esc1 (all up : Bool) (c : Int) : List Int := if bare all c then [c] else [37, hexc (c / 16) up, hexc (c % 16) up]

/-- What is written for the first k bytes. -/
def escs (all up : Bool) (f : Nat → Int) : Nat → List Int
  | 0 => []
  | k + 1 => escs all up f k ++ esc1 all up (f k)

theorem esc1_len (all up : Bool) (c : Int) : 1 ≤ (esc1 all up c).length ∧ (esc1 all up c).length ≤ 3 := by unfold esc1; split <;> simp
theorem escs_len (all up : Bool) (f : Nat → Int) : ∀ k, (escs all up f k).length ≤ 3 * k
  | 0 => by simp [escs]
  | k + 1 => by
    have := escs_len all up f k
    have := (esc1_len all up (f k)).2
    simp only [escs, List.length_append]
    omega

theorem one_new {W : World} {B : Nat} (hB : B = W.heap.size) (x : Value) (e : TypeId) : ∀ j u, [x][j]? = some u → (W.alloc (.cells #[x] e)).cell? ((⟨B, 0, none⟩ : Addr).add j) = some u := by
  subst hB
  intro j u hj
  rw [Go.WideShapes.add_plain, Nat.zero_add, cell_of_row _ _ _ _ _ _ (heap_alloc_new W _)]
  simpa using hj
theorem one_cell (z : Int) : ∀ u, u ∈ [Value.int .u8 z] → u.oneCell' = true := by
  intro u hu
  simp at hu
  subst hu; rfl

/-- The values of numbers. -/
def vals (xs : List Int) : List Value := xs.map (Value.int .u8)
theorem vals_snoc (xs : List Int) (z : Int) : vals xs ++ [.int .u8 z] = vals (xs ++ [z]) := by simp [vals]

/-- The slice v is a row of the call's own that reads as xs. -/
structure Rowed (w : World) (v : Value) (xs : List Int) (wr : World) : Prop where
  below : Below w.heap.size w wr
  own : wr.ownsRow w.heap.size 5 1 v xs.length (vals xs)

theorem Rowed.step {w wr w1 : World} {v v' : Value} {xs : List Int} (h : Rowed w v xs wr) {o : Obj} {z : Int}
    (h1 : w1.ownsRow w.heap.size 5 1 v' (xs.length + 1) (vals xs ++ [.int .u8 z])) (hg : (wr.alloc o).grownBy w1 v.ownBlock) : Rowed w v' (xs ++ [z]) w1 :=
  ⟨(h.below.alloc h.below.size _).grown hg (by simp; have := h.below.size; omega) (fun j hj => (h.own.lt j hj).1), by rw [← vals_snoc]; simpa using h1⟩

theorem conv_row {w wr : World} {v : Value} {xs : List Int} (h : Rowed w v xs wr) : (convert 37 9 v).run Try.prog wr = .ok (.string (strOfNums xs)) wr := by
  rcases h.own.2 with ⟨rfl, h0⟩ | ⟨g, cap, cur, rfl, _⟩
  · have : xs = [] := List.eq_nil_of_length_eq_zero h0
    subst this
    exact run_convert_bytes_nil wr 37 5 Try.underlying37 Try.underlying5 0 0 9 Try.underlying9
  · refine run_convert_bytes_arg wr 37 5 Try.underlying37 Try.underlying5 g 0 _ cap xs rfl (fun i hi => ?_) 9 Try.underlying9
    have := h.own.cells (g := g) rfl i (.int .u8 (xs.getD i 0)) (by simp [vals, List.getD, hi])
    rwa [Go.WideShapes.add_plain] at this

end Uri
end Go.Proofs.Qxb6603715a
