import Derived.Test.Qxb6603473aPerms
import Derived.BigRegion
namespace Go.Proofs.Qxb6603473a
namespace Menu
open Go.RowKit Go.Maps Go.WideMaps

theorem law : Keyed Try.prog 9 := string_keyed Try.underlying9
theorem zero47 (w : World) : (zeroValue 47).run Try.prog w = .ok (.pointer none) w := by kernel_rfl

/-- How an element of the map reads: the block that the pointer leads to; -1: nil. -/
def ptrElem (v : Value) : Option (DataW Unit × List MemPlace) :=
  match v with
  | .pointer none => some (.lit (.int .i64 (-1)), [])
  | .pointer (some a) => if a.off = 0 ∧ a.spot = none then some (.lit (.int .i64 (a.block : Nat)), []) else none
  | _ => none

theorem ptrElem_some {v : Value} {b : Nat} {ps : List MemPlace} (h : ptrElem v = some (.lit (.int .i64 (b : Nat)), ps)) : v = .pointer (some ⟨b, 0, none⟩) := by
  unfold ptrElem at h
  split at h
  · simp at h
  · rename_i a
    split at h
    · rename_i h0
      obtain ⟨x, y, z⟩ := a
      simp at h h0
      obtain ⟨rfl, rfl⟩ := h0
      have : x = b := by omega
      rw [this]
    · cases h
  · cases h
theorem ptrElem_none {v : Value} {ps : List MemPlace} (h : ptrElem v = some (.lit (.int .i64 (-1)), ps)) : v = .pointer none := by
  unfold ptrElem at h
  split at h
  · rfl
  · split at h
    · simp at h
    · cases h
  · cases h

def menuB (f : Entry) : Bool := f.type.toList == [109, 101, 110, 117]
def menuObj (f : Entry) (v : Value) : Obj := .cells #[.string f.code, .string f.name, .string f.url, v] 49 (0, 0)

/-- What the map says of the first k entries. -/
def KnowsM (D : DataW Unit) (F : Nat → Entry) (MB : Nat → Nat) (k : Nat) : Prop :=
  Maps.IsMap D ∧ ∀ s : ByteArray,
    (∀ i, i < k → menuB (F i) = true → (F i).code = s → D.atKey (.string s.data.toList) (.lit (.int .i64 (-1))) = .lit (.int .i64 (MB i : Nat))) ∧
    ((∀ i, i < k → menuB (F i) = true → (F i).code ≠ s) → D.atKey (.string s.data.toList) (.lit (.int .i64 (-1))) = .lit (.int .i64 (-1)))

def put (MB : Nat → Nat) (k b : Nat) (i : Nat) : Nat := if i = k then b else MB i
theorem put_same (MB : Nat → Nat) (k b : Nat) : put MB k b k = b := by simp [put]
theorem put_other (MB : Nat → Nat) {k b i : Nat} (h : i ≠ k) : put MB k b i = MB i := by simp [put, h]

theorem knows_empty (F : Nat → Entry) (MB : Nat → Nat) : KnowsM (.map []) F MB 0 := ⟨Maps.isMap_empty, fun s => ⟨fun i hi => by omega, fun _ => rfl⟩⟩
theorem KnowsM.skip {D : DataW Unit} {F : Nat → Entry} {MB : Nat → Nat} {k : Nat} (h : KnowsM D F MB k) (hm : menuB (F k) = false) : KnowsM D F MB (k + 1) := by
  refine ⟨h.1, fun s => ⟨fun i hi hmi hc => ?_, fun hall => (h.2 s).2 fun i hi => hall i (by omega)⟩⟩
  have : i ≠ k := fun e => by rw [e, hm] at hmi; cases hmi
  exact (h.2 s).1 i (by omega) hmi hc
theorem KnowsM.step {D : DataW Unit} {F : Nat → Entry} {MB : Nat → Nat} {k b : Nat} (h : KnowsM D F MB k) (hm : menuB (F k) = true) (hd : ∀ i, i < k → (F i).code ≠ (F k).code) :
    KnowsM (D.put (.string (F k).code.data.toList) (.lit (.int .i64 (b : Nat)))) F (put MB k b) (k + 1) := by
  refine ⟨h.1.put _ _, fun s => ?_⟩
  have hk : WideAt.IsKeyLit (.string (F k).code.data.toList) := trivial
  by_cases e : (F k).code = s
  · subst e
    rw [Maps.atKey_put_same h.1 hk]
    refine ⟨fun i hi hmi hc => ?_, fun hall => absurd rfl (hall k (Nat.lt_succ_self k) hm)⟩
    have : i = k := by
      by_cases e2 : i = k
      · exact e2
      · exact absurd hc (hd i (by omega))
    rw [this, put_same]
  · have hne : Lit.string s.data.toList ≠ .string (F k).code.data.toList := fun h2 => e (Go.WideShapes.bytes_inj (by simpa using h2.symm))
    rw [Maps.atKey_put_other hne]
    refine ⟨fun i hi hmi hc => ?_, fun hall => (h.2 s).2 fun i hi => hall i (by omega)⟩
    have hik : i ≠ k := fun e2 => e (by rw [← e2]; exact hc)
    rw [put_other _ hik]
    exact (h.2 s).1 i (by omega) hmi hc

/-- Behind k rounds of the first loop. -/
structure T1 (w : World) (F : Nat → Entry) (k : Nat) (MB : Nat → Nat) (D : DataW Unit) (wr : World) : Prop where
  map : wr.ownsMap Try.prog 9 ptrElem w.heap.size k D
  knows : KnowsM D F MB k
  lo : ∀ i, i < k → menuB (F i) = true → w.heap.size + 2 ≤ MB i ∧ MB i < wr.heap.size
  menu : ∀ i, i < k → menuB (F i) = true → wr.heap[MB i]? = some (menuObj (F i) (.slice (some ⟨MB i - 1, 0, none⟩) 0 0))
  row : ∀ i, i < k → menuB (F i) = true → wr.heap[MB i - 1]? = some (.cells #[] 47 (0, 0))
  ord : ∀ i j, i < j → j < k → menuB (F i) = true → menuB (F j) = true → MB i + 2 ≤ MB j
  below : Below w.heap.size w wr

theorem T1.start (w : World) (F : Nat → Entry) : T1 w F 0 (fun _ => 0) (.map []) (w.alloc (.map #[] 0)) :=
  ⟨World.ownsMap_made _ _ _ _, knows_empty _ _, fun i hi => by omega, fun i hi => by omega, fun i hi => by omega, fun i j _ hj => by omega, (Below.refl _ _).alloc (Nat.le_refl _) _⟩
theorem T1.skip {w wr : World} {F : Nat → Entry} {k : Nat} {MB : Nat → Nat} {D : DataW Unit} (h : T1 w F k MB D wr) (hm : menuB (F k) = false) : T1 w F (k + 1) MB D wr := by
  have hk : ∀ i, i < k + 1 → menuB (F i) = true → i < k := fun i hi hmi => by
    have : i ≠ k := fun e => by rw [e, hm] at hmi; cases hmi
    omega
  exact ⟨h.map.mono (Nat.le_succ _), h.knows.skip hm, fun i hi hmi => h.lo i (hk i hi hmi) hmi, fun i hi hmi => h.menu i (hk i hi hmi) hmi, fun i hi hmi => h.row i (hk i hi hmi) hmi,
    fun i j hij hj hmi hmj => h.ord i j hij (hk j hj hmj) hmi hmj, h.below⟩
theorem T1.step {w wr wu : World} {F : Nat → Entry} {k : Nat} {MB : Nat → Nat} {D : DataW Unit} (h : T1 w F k MB D wr) (hm : menuB (F k) = true) (hd : ∀ i, i < k → (F i).code ≠ (F k).code)
    (hmap : wu.ownsMap Try.prog 9 ptrElem w.heap.size (k + 1) (D.put (.string (F k).code.data.toList) (.lit (.int .i64 ((wr.heap.size + 1 : Nat) : Int)))))
    (hg : (((wr.alloc (.cells #[] 47)).alloc (menuObj (F k) (.slice (some ⟨wr.heap.size, 0, none⟩) 0 0))).drew).grownBy wu (some w.heap.size)) : T1 w F (k + 1) (put MB k (wr.heap.size + 1)) (D.put (.string (F k).code.data.toList) (.lit (.int .i64 ((wr.heap.size + 1 : Nat) : Int)))) wu := by
  have hlt := h.map.lt
  have hsz : (((wr.alloc (.cells #[] 47)).alloc (menuObj (F k) (.slice (some ⟨wr.heap.size, 0, none⟩) 0 0))).drew).heap.size = wr.heap.size + 2 := by
    show ((wr.heap.push _).push _).size = _
    simp
  have hwu := hg.size
  rw [hsz] at hwu
  have hblk : ∀ b, b < wr.heap.size + 2 → b ≠ w.heap.size → wu.heap[b]? = ((wr.heap.push (.cells #[] 47)).push (menuObj (F k) (.slice (some ⟨wr.heap.size, 0, none⟩) 0 0)))[b]? := fun b hb hne =>
    hg.block b (by rw [hsz]; exact hb) (fun e => hne (by simpa using e))
  have hold : ∀ b, b < wr.heap.size → b ≠ w.heap.size → wu.heap[b]? = wr.heap[b]? := fun b hb hne => by
    rw [hblk b (by omega) hne, Array.getElem?_push, if_neg (by simp; omega), Array.getElem?_push, if_neg (by omega)]
  refine ⟨hmap, h.knows.step hm hd, fun i hi hmi => ?_, fun i hi hmi => ?_, fun i hi hmi => ?_, fun i j hij hj hmi hmj => ?_, ?_⟩
  · by_cases e : i = k
    · rw [e, put_same]; omega
    · rw [put_other _ e]; have := h.lo i (by omega) hmi; omega
  · by_cases e : i = k
    · rw [e, put_same, hblk _ (by omega) (by omega), Array.getElem?_push, if_pos (by simp)]
      rfl
    · rw [put_other _ e]
      have hl := h.lo i (by omega) hmi
      rw [hold _ hl.2 (by omega)]
      exact h.menu i (by omega) hmi
  · by_cases e : i = k
    · rw [e, put_same, hblk _ (by omega) (by omega), Array.getElem?_push, if_neg (by simp), Array.getElem?_push, if_pos (by simp)]
    · rw [put_other _ e]
      have hl := h.lo i (by omega) hmi
      rw [hold _ (by omega) (by omega)]
      exact h.row i (by omega) hmi
  · by_cases e : j = k
    · have : i ≠ k := by omega
      rw [e, put_same, put_other _ this]
      have hl := h.lo i (by omega) hmi
      omega
    · have : i ≠ k := by omega
      rw [put_other _ e, put_other _ this]
      exact h.ord i j hij (by omega) hmi hmj
  · have hb := h.below.size
    refine ((((h.below.alloc hb _).alloc (by simp; omega) _).drew).grown hg (by rw [hsz]; omega) (fun j hj => by cases hj; exact Nat.le_refl _))

end Menu
end Go.Proofs.Qxb6603473a
