import Derived.Test.Qxb6602841aParts
import Derived.ProofKit
import Derived.OpenShut
import Derived.ShutString
import Derived.ChangeOld
import Derived.Below
import Derived.Deep.SlicePairs
namespace Go.Proofs.Qxb6602841a
open Go.ChangeShapes Go.WideShapes Go.ChangeAt Go.RowKit

theorem own : ownKnob Try.prog.godebug = none := by kernel_rfl
theorem laidOut : laidOutB Try.prog = true := by kernel_rfl
theorem cells44 : Try.prog.cellsOf 44 = 2 := by kernel_rfl
theorem cells9 : Try.prog.cellsOf 9 = 1 := by kernel_rfl
theorem cells2 : Try.prog.cellsOf 2 = 1 := by kernel_rfl

/-- A slice of pairs that came in, as the walk is told of it. -/
theorem open_pairs {H : Type} {enc : TypeId × Value → H} {W : World} {x : Option Addr} {n cap : Nat} {d : DataW H} {p : List MemPlace}
    (h : DataW.Trod enc Try.prog W 0 (fun _ => true) true 30 (.slice x n cap) d p) :
    (x = none → n = 0 ∧ cap = 0) ∧ ∃ (S : Nat → ByteArray) (V : Nat → Int), Pairs W x n S V ∧ ∀ i, i < n → (Lit.int .i64 (V i)).wf = true := by
  obtain ⟨fuel, hf⟩ := h
  rcases Go.Deep.open_slice_pairs Try.underlying30 Try.underlying44 cells44 rfl rfl cells9 cells2 hf with ⟨hcs, _⟩ | ⟨a, len, cap', m, nn, V0, V1, D0, D1, P0, P1, hcs, _, hl, hm, hmm, _, hc⟩
  · simp [Value.cells] at hcs
    obtain ⟨rfl, rfl, rfl⟩ := hcs
    exact ⟨fun _ => ⟨rfl, rfl⟩, fun _ => ByteArray.empty, fun _ => 0, ⟨Nat.zero_le _, fun h => by omega⟩, fun i hi => by omega⟩
  · simp [Value.cells] at hcs
    obtain ⟨rfl, rfl, rfl⟩ := hcs
    refine ⟨(fun h => by simp at h), ?_⟩
    simp only [if_true] at hmm
    subst hmm
    have hS : ∀ i, i < m → ∃ q : ByteArray × Int, V0 i = .string q.1 ∧ V1 i = .int .i64 q.2 ∧ q.1.size ≤ maxLen ∧ (Lit.int .i64 q.2).wf = true := fun i hi => by
      obtain ⟨_, _, h3, h4⟩ := hc i hi
      obtain ⟨s, e1, _, e2⟩ := DataW.trod_string Try.underlying9 h3
      obtain ⟨z, e3, _, e4⟩ := DataW.trod_int Try.underlying2 h4
      simp at e1 e3
      exact ⟨(s, z), e1, e3, e2, e4⟩
    obtain ⟨q, hq⟩ := Go.Deep.choose_lt (α := ByteArray × Int) (h := hS)
    refine ⟨fun i => (q i).1, fun i => (q i).2, ⟨by omega, fun h0 => ?_⟩, fun i hi => (hq i (by omega)).2.2.2⟩
    obtain ⟨b, off, spot⟩ := a
    have hspot : spot = none := by
      have := World.cell?_spot (hc 0 (by omega)).1
      simpa [Addr.add] using this
    subst hspot
    refine ⟨b, off, rfl, fun i hi => ?_⟩
    obtain ⟨h1, h2, _⟩ := hc i (by omega)
    obtain ⟨g1, g2, g3, _⟩ := hq i (by omega)
    rw [Go.WideShapes.add_plain] at h1 h2
    exact ⟨by rw [h1, g1], by rw [← g2, ← h2]; rfl, g3⟩

end Go.Proofs.Qxb6602841a
