import Derived.Test.Qxb6603473aDoorRows
import Derived.WalkKit
import Derived.ProofKit
namespace Go.Proofs.Qxb6603473aDoor.Closed3

theorem andI {a b : Bool} (ha : a = true) (hb : b = true) : (a && b) = true := by rw [ha, hb]; rfl

/-! THE HEAD's WORDS, ONCE: the kernel's own run of 'make', 'mayEnter', 'liftsFinal' over the loaded program wants some ten gigabytes each; said of any program they are cheap. -/
theorem make_of (P : Program) (r : List (List Char)) (h : behindMainWord (wordsSigns P.initOrder.toList) = ['c', 'u', 't'] :: r) : P.make = some .cut := by
  unfold Program.make
  rw [h]
  kernel_rfl
theorem lifts_of (P : Program) (r : List (List Char)) (h : behindMainWord (wordsSigns P.initOrder.toList) = ['c', 'u', 't'] :: r) : P.liftsFinal = false := by
  unfold Program.liftsFinal Program.headLifts
  rw [h]
  kernel_rfl
theorem enter_of (P : Program) (r : List (List Char)) (h : behindMainWord (wordsSigns P.initOrder.toList) = ['c', 'u', 't'] :: r) (h1 : P.laysLater = false) (h2 : P.bearsReflect = false) (h3 : P.doorFits [] = true) : P.mayEnter = true := by
  unfold Program.mayEnter
  rw [h, h1, h2]
  have e : stripLifts liftWords (['c', 'u', 't'] :: r) = ([], ['c', 'u', 't'] :: r) := by kernel_rfl
  dsimp only
  rw [e]
  dsimp only
  rw [h3]
  simp
set_option maxRecDepth 1000000 in
theorem head_of : ∃ l, Tryd.prog.initOrder.toList = l ∧ (behindMainWord (wordsSigns l)).head? = some ['c', 'u', 't'] := by
  have e : ∃ l, Tryd.prog.initOrder = String.ofList l ∧ (behindMainWord (wordsSigns l)).head? = some ['c', 'u', 't'] := ⟨_, rfl, by kernel_rfl⟩
  obtain ⟨l, h1, h2⟩ := e
  exact ⟨l, by rw [h1, String.toList_ofList], h2⟩
theorem words_of : ∃ r, behindMainWord (wordsSigns Tryd.prog.initOrder.toList) = ['c', 'u', 't'] :: r := by
  obtain ⟨l, h1, h2⟩ := head_of
  rw [h1]
  generalize behindMainWord (wordsSigns l) = x at h2
  cases x with
  | nil => cases h2
  | cons c r => simp at h2; exact ⟨r, by rw [h2]⟩

theorem k10 : (Rows.fnArrayLiteralDecodesToKeptIdsRow.inPlace == Tryd.prog.inPlace 3) = true := by kernel_rfl
theorem k11 : (Rows.fnArrayLiteralDecodesToKeptIdsRow.unfollowed == Tryd.prog.unfollowed 3) = true := by kernel_rfl
theorem k12 : (Rows.fnArrayLiteralDecodesToKeptIdsRow.recurses == Tryd.prog.recurses 3) = true := by kernel_rfl
theorem k13 : (Rows.fnArrayLiteralDecodesToKeptIdsRow.named == Tryd.prog.varsNamed 3) = true := by kernel_rfl
theorem later0 : Tryd.prog.laysLater = false := by kernel_rfl
theorem reflect0 : Tryd.prog.bearsReflect = false := by kernel_rfl
theorem door0 : Tryd.prog.doorFits [] = true := by kernel_rfl
theorem k26 : Tryd.prog.mayEnter = true := by
  obtain ⟨r, h⟩ := words_of
  exact enter_of Tryd.prog r h later0 reflect0 door0
theorem k27 : (Rows.fnArrayLiteralDecodesToKeptIdsRow.lifted == Tryd.prog.liftsFinal) = true := by
  obtain ⟨r, h⟩ := words_of
  rw [lifts_of Tryd.prog r h]
  rfl
theorem k28 : (Tryd.prog.make == some Rows.fnArrayLiteralDecodesToKeptIdsRow.make) = true := by
  obtain ⟨r, h⟩ := words_of
  rw [make_of Tryd.prog r h]
  rfl

theorem closed : joinedFacts Tryd.prog 3 Tryd.f3 Rows.fnArrayLiteralDecodesToKeptIdsSpec Rows.fnArrayLiteralDecodesToKeptIdsRow = true := by
  unfold joinedFacts
  exact andI (andI (andI (andI (andI (andI (andI (andI (andI (andI (andI (andI (andI (andI (andI (andI (andI (andI (andI (andI (andI (andI (andI (andI (andI (andI (andI (andI (andI (andI (andI (by as_aux_lemma => kernel_rfl) (by as_aux_lemma => kernel_rfl)) (by as_aux_lemma => kernel_rfl)) (by as_aux_lemma => kernel_rfl)) (by as_aux_lemma => kernel_rfl)) (by as_aux_lemma => kernel_rfl)) (by as_aux_lemma => kernel_rfl)) (by as_aux_lemma => kernel_rfl)) (by as_aux_lemma => kernel_rfl)) k10) k11) k12) k13) (by as_aux_lemma => kernel_rfl)) (by as_aux_lemma => kernel_rfl)) (by as_aux_lemma => kernel_rfl)) (by as_aux_lemma => kernel_rfl)) (by as_aux_lemma => kernel_rfl)) (by as_aux_lemma => kernel_rfl)) (by as_aux_lemma => kernel_rfl)) (by as_aux_lemma => kernel_rfl)) (by as_aux_lemma => kernel_rfl)) (by as_aux_lemma => kernel_rfl)) (by as_aux_lemma => kernel_rfl)) (by as_aux_lemma => kernel_rfl)) k26) k27) k28) (by as_aux_lemma => kernel_rfl)) (by as_aux_lemma => kernel_rfl)) (by as_aux_lemma => kernel_rfl)) (by as_aux_lemma => kernel_rfl)
end Go.Proofs.Qxb6603473aDoor.Closed3
