import Derived.Test.Qxb6603473aLawA
import Derived.Test.Qxb6603473aClosed3
import Derived.ProofKit
import Derived.OpenShut
import Derived.ShutString
import Derived.ChangeOld
import Derived.Below
import Derived.Deep.Matrix
namespace Go.Proofs.Qxb6603473a
open Go.ChangeShapes Go.WideShapes Go.ChangeAt Go.RowKit
set_option linter.unusedVariables false

theorem own : ownKnob Try.prog.godebug = none := by kernel_rfl
theorem laidOut : laidOutB Try.prog = true := by kernel_rfl
theorem cells24 : Try.prog.cellsOf 24 = 1 := by kernel_rfl
theorem cells3 : Try.prog.cellsOf 3 = 1 := by kernel_rfl

/-- A slice of rows of numbers that came in, as the walk is told of it. -/
theorem open_graph {H : Type} {enc : TypeId × Value → H} {W : World} {x : Option Addr} {n cap : Nat} {d : DataW H} {p : List MemPlace}
    (h : DataW.Trod enc Try.prog W 0 (fun _ => true) true 22 (.slice x n cap) d p) :
    (x = none → n = 0 ∧ cap = 0) ∧ ∃ (L : Nat → Nat) (E : Nat → Nat → Int), Graph W x n L E := by
  obtain ⟨fuel, hf⟩ := h
  rcases Go.Deep.open_int_rows Try.underlying22 Try.underlying24 Try.underlying3 cells24 cells3 hf with ⟨hcs, _⟩ | ⟨a, len, cap', A, L, C, Z, hcs, _, hl, hm, _, hc⟩
  · simp [Value.cells] at hcs
    obtain ⟨rfl, rfl, rfl⟩ := hcs
    exact ⟨fun _ => ⟨rfl, rfl⟩, fun _ => 0, fun _ _ => 0, Nat.zero_le _, fun h => by omega⟩
  · simp [Value.cells] at hcs
    obtain ⟨rfl, rfl, rfl⟩ := hcs
    refine ⟨(fun h => by simp at h), L, fun i k => (Z i).getD k 0, by omega, fun h0 => ?_⟩
    obtain ⟨b, off, spot⟩ := a
    have hspot : spot = none := by
      have := World.cell?_spot (hc 0 (by omega)).1
      simpa [Addr.add] using this
    subst hspot
    refine ⟨b, off, rfl, fun i hi => ?_⟩
    obtain ⟨h1, h2, h3, h4, h5, h6, h7⟩ := hc i (by omega)
    rw [Go.WideShapes.add_plain] at h1
    refine ⟨A i, C i, h1, fun e => ⟨by have := h6 e; omega, h6 e⟩, by omega, fun hl0 => ?_⟩
    cases hA : A i with
    | none => have := h6 hA; omega
    | some a' =>
      obtain ⟨_, hrow⟩ := h7 a' hA
      obtain ⟨b', off', spot'⟩ := a'
      have hs' : spot' = none := by
        have := World.cell?_spot (hrow 0 (by omega))
        simpa [Addr.add] using this
      subst hs'
      refine ⟨b', off', rfl, fun k hk => ?_⟩
      have := hrow k (by omega)
      rw [Go.WideShapes.add_plain] at this
      exact this

set_option maxRecDepth 100000 in
theorem lifted3 (os : Os) (started : os.Started) (H : Type) (enc : TypeId × Value → H) :
    ReturnsInHanded {} Try.checked os 3 .any (Rows.fnAcyclicOrderWitnessesItsAnswerSpec.pre6 enc Try.prog Try.f3 Rows.fnAcyclicOrderWitnessesItsAnswerRow.domain false) (Rows.fnAcyclicOrderWitnessesItsAnswerSpec.post enc Try.prog Try.f3 false true false false) := by
  refine returnsInHanded_of_change (C := Try.checked) own started (by kernel_rfl) Try.func3
    (ChangeSpec.witness6 (enc := enc) (C := Try.checked) false ⟨#[], #[.slice none 0 0], []⟩ 8 (by kernel_rfl) (by kernel_rfl) (by kernel_rfl) (by kernel_rfl)) ?_
  intro W base args ds gs before hval0 hW hcnd _
  have hval : ∀ (j : Nat) t v, Try.f3.params[j]? = some t → args[j]? = some v → Value.okWide Try.prog W .any base t v := hval0
  have hW' := hW
  obtain ⟨p, q, hA0, hV, rfl, hfz, hnd⟩ := hW
  have hA : DataW.TrodAll enc Try.prog W 0 (fun _ => true) true Try.f3.params.toList args.toList ds p := hA0
  rw [Try.params3] at hA hval
  obtain ⟨v0, vs0, d0, ds0, p0, q0, hargs, rfl, rfl, h0, r0⟩ := trodAll_cons hA
  obtain ⟨rfl, rfl, rfl⟩ := trodAll_nil r0
  obtain rfl : args = #[v0] := by cases args; simp_all
  obtain ⟨rfl, rfl⟩ := trodVars_none hV
  obtain ⟨a0, len0, cap0, rfl⟩ := okWide_slice Try.underlying22 (hval 0 22 v0 rfl rfl)
  have k0 := h0
  have lt0 : ∀ x ∈ p0, x.block < W.heap.size := by obtain ⟨m, hm⟩ := k0; exact DataW.trod_lt m _ _ _ hm
  obtain ⟨e0, L, E, G⟩ := open_graph k0
  clear hA0 hval0
  refine (law3 a0 len0 cap0 L E W G e0).mono fun e W' ⟨he, bel⟩ => ?_
  subst he
  exact ⟨_, rfl, _, _, _, [], _, [], hW', trodAll_mk1 (shut_bool Try.underlying4 _),
    (trodAll_cons_mk (Below.trod laidOut (by kernel_rfl) (of_decide_eq_true (by kernel_rfl)) k0 bel lt0) trodAll_mk0), rfl, bel.frame _, fun h => by cases h⟩

theorem over3 : Rows.fnAcyclicOrderWitnessesItsAnswerRow.holds Try.pinned (OpenSpec.ofChange Rows.fnAcyclicOrderWitnessesItsAnswerSpec) :=
  OpenClaim.holds_of_wide 3 Try.f3 rfl rfl rfl rfl rfl rfl rfl ⟨rfl, rfl, rfl, rfl, rfl⟩ rfl rfl rfl rfl rfl (by kernel_rfl) Try.func3 Closed3.closed
    (of_decide_eq_true (by kernel_rfl)) (by unfold Func.isWrapper; first | (rw [if_pos (by decide +kernel)]; kernel_rfl) | (rw [if_neg (by decide +kernel)]; exact ⟨rfl, rfl⟩))
    (fun os started H enc _ => lifted3 os started H enc)

/-- THE STATEMENT -/
theorem acyclic_proved : Rows.FnAcyclicOrderWitnessesItsAnswerSaid := over3
end Go.Proofs.Qxb6603473a
