import Derived.Test.Qxb6603473aLawB
import Derived.Test.Qxb6603473aClosed4
import Derived.ProofKit
import Derived.OpenShut
import Derived.ShutString
import Derived.ChangeOld
import Derived.Below
import Derived.Deep.Slices
namespace Go.Proofs.Qxb6603473a
namespace Menu
open Go.ChangeShapes Go.WideShapes Go.ChangeAt Go.RowKit
set_option linter.unusedVariables false

theorem own : ownKnob Try.prog.godebug = none := by kernel_rfl
theorem laidOut : laidOutB Try.prog = true := by kernel_rfl
theorem cells33 : Try.prog.cellsOf 33 = 8 := by kernel_rfl
theorem cells9 : Try.prog.cellsOf 9 = 1 := by kernel_rfl
theorem cells2 : Try.prog.cellsOf 2 = 1 := by kernel_rfl

/-- A slice of entries that came in, as the walk is told of it. -/
theorem open_entries {H : Type} {enc : TypeId × Value → H} {W : World} {x : Option Addr} {n cap : Nat} {d : DataW H} {p : List MemPlace}
    (h : DataW.Trod enc Try.prog W 0 (fun _ => true) true 30 (.slice x n cap) d p) :
    (x = none → n = 0 ∧ cap = 0) ∧ ∃ F : Nat → Entry, Entries W x n F := by
  obtain ⟨fuel, hf⟩ := h
  rcases Go.Deep.open_slice Try.underlying30 hf with ⟨hcs, _⟩ | ⟨a, len, cap', m, nn, D, Pl, hcs, _, hl, hm, hmm, _, hc⟩
  · simp [Value.cells] at hcs
    obtain ⟨rfl, rfl, rfl⟩ := hcs
    exact ⟨fun _ => ⟨rfl, rfl⟩, fun _ => ⟨ByteArray.empty, ByteArray.empty, ByteArray.empty, ByteArray.empty, ByteArray.empty, ByteArray.empty, 0, ByteArray.empty⟩, Nat.zero_le _, fun h => by omega⟩
  · simp [Value.cells] at hcs
    obtain ⟨rfl, rfl, rfl⟩ := hcs
    simp only [if_true] at hmm
    subst hmm
    refine ⟨(fun h => by simp at h), ?_⟩
    by_cases hm0 : n = 0
    · exact ⟨fun _ => ⟨ByteArray.empty, ByteArray.empty, ByteArray.empty, ByteArray.empty, ByteArray.empty, ByteArray.empty, 0, ByteArray.empty⟩, by omega, fun h => by omega⟩
    obtain ⟨b, off, spot⟩ := a
    have hspot : spot = none := by
      obtain ⟨cs, h1, _⟩ := hc 0 (by omega)
      rw [cells33] at h1
      obtain ⟨_, hlen, hcell⟩ := World.cells?_some h1
      have := hcell 0 (by omega)
      have h9 : (W.cell? ⟨b, off, spot⟩).isSome = true := by
        have h8 : W.cell? ((Addr.add ⟨b, off, spot⟩ (0 * 8)).add 0) = W.cell? ⟨b, off, spot⟩ := by simp [Addr.add]
        rw [← h8, this]
        simp [hlen]
      obtain ⟨u, hu⟩ := Option.isSome_iff_exists.1 h9
      exact World.cell?_spot hu
    subst hspot
    have each : ∀ i, i < m → ∃ q : Entry, EntryAt W b (off + i * 8) q ∧ q.small := fun i hi => by
      obtain ⟨cs, h1, h2⟩ := hc i hi
      rw [cells33] at h1
      obtain ⟨_, hlen, hcell⟩ := World.cells?_some h1
      obtain ⟨xs, k, hk, hxy, _, hxl, hf⟩ := DataW.trod_struct Try.underlying33 h2
      match xs, hxl, cs, hlen with
      | [y0, y1, y2, y3, y4, y5, y6, y7], _, [v0, v1, v2, v3, v4, v5, v6, v7], _ =>
        have g0 := hf 0 _ rfl
        have g1 := hf 1 _ rfl
        have g2 := hf 2 _ rfl
        have g3 := hf 3 _ rfl
        have g4 := hf 4 _ rfl
        have g5 := hf 5 _ rfl
        have g6 := hf 6 _ rfl
        have g7 := hf 7 _ rfl
        simp [cells9, cells2] at g0 g1 g2 g3 g4 g5 g6 g7
        obtain ⟨s0, e0, _, z0⟩ := DataW.trod_string Try.underlying9 g0
        obtain ⟨s1, e1, _, z1⟩ := DataW.trod_string Try.underlying9 g1
        obtain ⟨s2, e2, _, z2⟩ := DataW.trod_string Try.underlying9 g2
        obtain ⟨s3, e3, _, z3⟩ := DataW.trod_string Try.underlying9 g3
        obtain ⟨s4, e4, _, z4⟩ := DataW.trod_string Try.underlying9 g4
        obtain ⟨s5, e5, _, z5⟩ := DataW.trod_string Try.underlying9 g5
        obtain ⟨s6, e6, _, z6⟩ := DataW.trod_int Try.underlying2 g6
        obtain ⟨s7, e7, _, z7⟩ := DataW.trod_string Try.underlying9 g7
        simp at e0 e1 e2 e3 e4 e5 e6 e7
        subst e0 e1 e2 e3 e4 e5 e6 e7
        have c0 := hcell 0 (by omega)
        have c1 := hcell 1 (by omega)
        have c2 := hcell 2 (by omega)
        have c3 := hcell 3 (by omega)
        have c4 := hcell 4 (by omega)
        have c5 := hcell 5 (by omega)
        have c6 := hcell 6 (by omega)
        have c7 := hcell 7 (by omega)
        rw [Go.WideShapes.add_plain, Go.WideShapes.add_plain] at c0 c1 c2 c3 c4 c5 c6 c7
        exact ⟨⟨s0, s1, s2, s3, s4, s5, s6, s7⟩, ⟨c0, c1, c2, c3, c4, c5, c6, c7⟩, z0, z1, z2, z3, z4, z5, z7⟩
    have hne : Nonempty Entry := ⟨⟨ByteArray.empty, ByteArray.empty, ByteArray.empty, ByteArray.empty, ByteArray.empty, ByteArray.empty, 0, ByteArray.empty⟩⟩
    have hch : ∃ F : Nat → Entry, ∀ i, i < m → EntryAt W b (off + i * 8) (F i) ∧ (F i).small := by
      classical
      refine ⟨fun i => if hi : i < m then Classical.choose (each i hi) else Classical.choice hne, fun i hi => ?_⟩
      simp only [dif_pos hi]
      exact Classical.choose_spec (each i hi)
    obtain ⟨F, hF⟩ := hch
    exact ⟨F, by omega, fun _ => ⟨b, off, rfl, fun i hi => hF i (by omega)⟩⟩

set_option maxRecDepth 100000 in
theorem lifted4 (os : Os) (started : os.Started) (H : Type) (enc : TypeId × Value → H) :
    ReturnsInHanded {} Try.checked os 4 .any (Rows.fnMenuTreeIsTheMenusUnderTheirParentsSpec.pre6 enc Try.prog Try.f4 Rows.fnMenuTreeIsTheMenusUnderTheirParentsRow.domain false) (Rows.fnMenuTreeIsTheMenusUnderTheirParentsSpec.post enc Try.prog Try.f4 false true false false) := by
  refine returnsInHanded_of_change (C := Try.checked) own started (by kernel_rfl) Try.func4
    (ChangeSpec.witness6 (enc := enc) (C := Try.checked) false ⟨#[], #[.slice none 0 0], []⟩ 8 (by kernel_rfl) (by kernel_rfl) (by kernel_rfl) (by kernel_rfl)) ?_
  intro W base args ds gs before hval0 hW hcnd _
  have hval : ∀ (j : Nat) t v, Try.f4.params[j]? = some t → args[j]? = some v → Value.okWide Try.prog W .any base t v := hval0
  have hW' := hW
  obtain ⟨p, q, hA0, hV, rfl, hfz, hnd⟩ := hW
  have hA : DataW.TrodAll enc Try.prog W 0 (fun _ => true) true Try.f4.params.toList args.toList ds p := hA0
  rw [Try.params4] at hA hval
  obtain ⟨v0, vs0, d0, ds0, p0, q0, hargs, rfl, rfl, h0, r0⟩ := trodAll_cons hA
  obtain ⟨rfl, rfl, rfl⟩ := trodAll_nil r0
  obtain rfl : args = #[v0] := by cases args; simp_all
  obtain ⟨rfl, rfl⟩ := trodVars_none hV
  obtain ⟨a0, len0, cap0, rfl⟩ := okWide_slice Try.underlying30 (hval 0 30 v0 rfl rfl)
  have k0 := h0
  have lt0 : ∀ x ∈ p0, x.block < W.heap.size := by obtain ⟨m, hm⟩ := k0; exact DataW.trod_lt m _ _ _ hm
  obtain ⟨e0, F, G⟩ := open_entries k0
  clear hA0 hval0
  refine (law4 a0 len0 cap0 F W G e0).mono fun e W' ⟨he, bel⟩ => ?_
  subst he
  exact ⟨_, rfl, _, _, _, [], _, [], hW', trodAll_mk1 (shut_bool Try.underlying4 _),
    (trodAll_cons_mk (Below.trod laidOut (by kernel_rfl) (of_decide_eq_true (by kernel_rfl)) k0 bel lt0) trodAll_mk0), rfl, bel.frame _, fun h => by cases h⟩

theorem over4 : Rows.fnMenuTreeIsTheMenusUnderTheirParentsRow.holds Try.pinned (OpenSpec.ofChange Rows.fnMenuTreeIsTheMenusUnderTheirParentsSpec) :=
  OpenClaim.holds_of_wide 4 Try.f4 rfl rfl rfl rfl rfl rfl rfl ⟨rfl, rfl, rfl, rfl, rfl⟩ rfl rfl rfl rfl rfl (by kernel_rfl) Try.func4 Closed4.closed
    (of_decide_eq_true (by kernel_rfl)) (by unfold Func.isWrapper; first | (rw [if_pos (by decide +kernel)]; kernel_rfl) | (rw [if_neg (by decide +kernel)]; exact ⟨rfl, rfl⟩))
    (fun os started H enc _ => lifted4 os started H enc)
end Menu

/-- THE STATEMENT -/
theorem menu_proved : Rows.FnMenuTreeIsTheMenusUnderTheirParentsSaid := Menu.over4
end Go.Proofs.Qxb6603473a
