import Derived.Test.Qxb6603473aDoorLit
import Derived.ProofKit
import Derived.OpenShut
import Derived.ShutString
import Derived.ChangeOld
import Derived.Below
import Derived.Deep.Slices
import Derived.SizedLaws
import Derived.ChangeSame
import Derived.ChangeVars
import Derived.ChangeMaps5
import Derived.JoinedOf
import Derived.JoinedAt
import Derived.RowKit
import Derived.RowKit3
import Derived.RowKitTokens
import Derived.LaidLaws
import Derived.Stop.LaidErr
namespace Go.Proofs.Qxb6603473aDoor
open Go.ChangeShapes Go.WideShapes Go.ChangeAt Go.RowKit
open Go.ChangeMaps (open_string shut_string)

theorem own : ownKnob Tryd.prog.godebug = none := by kernel_rfl
theorem laidOut : laidOutB Tryd.prog = true := by kernel_rfl
theorem cells9 : Tryd.prog.cellsOf 9 = 1 := by kernel_rfl
theorem cells67 : Tryd.prog.cellsOf 67 = 1 := by kernel_rfl

/-- A slice of strings that came in, as the walk is told of it. -/
theorem open_strs {H : Type} {enc : TypeId × Value → H} {W : World} {x : Option Addr} {n cap : Nat} {d : DataW H} {p : List MemPlace}
    (h : DataW.Trod enc Tryd.prog W 0 (fun _ => true) true 22 (.slice x n cap) d p) :
    (x = none → n = 0 ∧ cap = 0) ∧ ∃ S : Nat → ByteArray, StrsAt W x n S ∧ ∀ i, i < n → (S i).size ≤ maxLen := by
  obtain ⟨fuel, hf⟩ := h
  rcases Go.Deep.open_slice Tryd.underlying22 hf with ⟨hcs, _⟩ | ⟨a, len, cap', m, nn, D, Pl, hcs, _, hl, hm, hmm, _, hc⟩
  · simp [Value.cells] at hcs
    obtain ⟨rfl, rfl, rfl⟩ := hcs
    exact ⟨fun _ => ⟨rfl, rfl⟩, fun _ => ByteArray.empty, ⟨Nat.zero_le _, fun h => by omega⟩, fun i h => by omega⟩
  · simp [Value.cells] at hcs
    obtain ⟨rfl, rfl, rfl⟩ := hcs
    simp only [if_true] at hmm
    subst hmm
    refine ⟨(fun h => by simp at h), ?_⟩
    by_cases hm0 : n = 0
    · exact ⟨fun _ => ByteArray.empty, ⟨by omega, fun h => by omega⟩, fun i h => by omega⟩
    obtain ⟨b, off, spot⟩ := a
    have hspot : spot = none := by
      obtain ⟨cs, h1, _⟩ := hc 0 (by omega)
      rw [cells9] at h1
      obtain ⟨_, hlen, hcell⟩ := World.cells?_some h1
      have := hcell 0 (by omega)
      have h9 : (W.cell? ⟨b, off, spot⟩).isSome = true := by
        have h8 : W.cell? ((Addr.add ⟨b, off, spot⟩ (0 * 1)).add 0) = W.cell? ⟨b, off, spot⟩ := by simp [Addr.add]
        rw [← h8, this]
        simp [hlen]
      obtain ⟨u, hu⟩ := Option.isSome_iff_exists.1 h9
      exact World.cell?_spot hu
    subst hspot
    have each : ∀ i, i < m → ∃ s : ByteArray, W.cell? ⟨b, off + i, none⟩ = some (.string s) ∧ s.size ≤ maxLen := fun i hi => by
      obtain ⟨cs, h1, h2⟩ := hc i hi
      rw [cells9] at h1
      obtain ⟨_, hlen, hcell⟩ := World.cells?_some h1
      obtain ⟨s, rfl, _, hs⟩ := DataW.trod_string Tryd.underlying9 h2
      have c0 := hcell 0 (by omega)
      rw [Go.WideShapes.add_plain, Go.WideShapes.add_plain] at c0
      simp only [Nat.mul_one, Nat.add_zero, List.getElem?_cons_zero] at c0
      exact ⟨s, c0, hs⟩
    have hch : ∃ S : Nat → ByteArray, ∀ i, i < m → W.cell? ⟨b, off + i, none⟩ = some (.string (S i)) ∧ (S i).size ≤ maxLen := by
      classical
      refine ⟨fun i => if hi : i < m then Classical.choose (each i hi) else ByteArray.empty, fun i hi => ?_⟩
      simp only [dif_pos hi]
      exact Classical.choose_spec (each i hi)
    obtain ⟨S, hS⟩ := hch
    exact ⟨S, ⟨by omega, fun _ => ⟨b, off, rfl, fun i hi => (hS i (by omega)).1⟩⟩, fun i hi => (hS i (by omega)).2⟩

/-! THE LISTED VARIABLES. -/
abbrev laid5 : List (String × DataW Unit) := Rows.fnArrayLiteralSplitsOverConcatenationRow.laid

theorem gES : Tryd.prog.globalNamed "strconv.ErrSyntax" = some 1 := by kernel_rfl
theorem gESType : (Tryd.prog.globals[1]?).map (·.type) = some 39 := by kernel_rfl
theorem gER : Tryd.prog.globalNamed "strconv.ErrRange" = some 2 := by kernel_rfl
theorem gERType : (Tryd.prog.globals[2]?).map (·.type) = some 39 := by kernel_rfl
/-- The name of the type that a listed interface holds. -/
def nameOf : DataW Unit → String
  | .iface n _ => n
  | _ => "none"
theorem star : nameOf Rows.laid_strconv_ErrRange = String.ofList [Char.ofNat 42] ++ "errors.errorString" := by decide
theorem row65 (u : TypeId) (h : Tryd.prog.typeName? 3 u = some (nameOf Rows.laid_strconv_ErrRange)) : u = 65 := by
  have hr : ((List.range Tryd.prog.types.size).all fun u => Tryd.prog.typeName? 3 u != some (nameOf Rows.laid_strconv_ErrRange) || u == 65) = true := by kernel_rfl
  rw [star] at hr h
  exact typeName_ptr_named (nm := "errors.errorString") hr (by kernel_rfl) (by decide) u h

theorem vars_of {W : World} (hL : laidMet Tryd.prog laid5 W) : Vars W := by
  replace hL : laidMet Tryd.prog [_, _, _, (_, Rows.laid_strconv_ErrRange), (_, Rows.laid_strconv_ErrSyntax)] W := hL
  obtain ⟨a0, s0, hv0, -, -, -⟩ := laid_sentinel hL.tail.tail.tail gER gERType Tryd.underlying39 row65 Tryd.underlying65 Tryd.underlying67 rfl rfl Tryd.underlying9 cells67 cells9
  obtain ⟨a1, s1, hv1, -, -, -⟩ := laid_sentinel hL.tail.tail.tail.tail gES gESType Tryd.underlying39 row65 Tryd.underlying65 Tryd.underlying67 rfl rfl Tryd.underlying9 cells67 cells9
  exact ⟨⟨_, _, hv1⟩, _, _, hv0⟩

abbrev synS : ByteArray := { data := #[105, 110, 118, 97, 108, 105, 100, 32, 115, 121, 110, 116, 97, 120] }
abbrev rngS : ByteArray := { data := #[118, 97, 108, 117, 101, 32, 111, 117, 116, 32, 111, 102, 32, 114, 97, 110, 103, 101] }
/-- The cells of a listed table. -/
def tableOf : DataW Unit → Array Value
  | .agg l => (l.map fun
      | .lit x => x.value
      | _ => .nilIface).toArray
  | _ => #[]
/-- So many blocks has the settled world. -/
def lowOf (P : Program) : Nat := (World.holding P default ⟨#[], #[], []⟩).heap.size
def lay (v : Array Value) : Obj → Obj
  | .cells _ t frozen => .cells v t frozen
  | o => o
/-- The settled world with two blocks more, each an errors.errorString; the listed variables hold what the row lists. -/
def laidOf (P : Program) (os : Os) : World :=
  let w0 := World.holding P os ⟨#[.cells #[.string synS] 67, .cells #[.string rngS] 67], #[], []⟩
  { w0 with heap := ((((w0.heap.modify 1 (lay #[.iface 65 (.pointer (some ⟨lowOf P, 0, none⟩))])).modify 2 (lay #[.iface 65 (.pointer (some ⟨lowOf P + 1, 0, none⟩))])).modify 3
      (lay (tableOf Rows.laid_internal_strconv_uint64pow10))).modify 4 (lay (tableOf Rows.laid_math_bits_deBruijn32tab))).modify 5 (lay (tableOf Rows.laid_math_bits_deBruijn64tab)) }
set_option maxRecDepth 100000 in
theorem laidOf_met (os : Os) (args : Array Value) : laidMet Tryd.prog laid5 ((laidOf Tryd.prog os).forCall (fun _ _ => 0) ⟨#[], args, []⟩).memory :=
  laidMet_of_run' 8 (by kernel_rfl) (by kernel_rfl)
end Go.Proofs.Qxb6603473aDoor
