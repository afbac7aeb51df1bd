import Derived.Test.Qxb6603473aTree
namespace Go.Proofs.Qxb6603473a
namespace Menu
open Go.RowKit Go.Maps Go.WideMaps

/-- In the second loop. -/
structure T2 (w : World) (F : Nat → Entry) (n : Nat) (MB : Nat → Nat) (CV : Nat → Value) (K : Nat → List Nat) (vr : Value) (R : List Nat) (D : DataW Unit) (wr : World) : Prop where
  map : wr.ownsMap Try.prog 9 ptrElem w.heap.size n D
  knows : KnowsM D F MB n
  menu : ∀ i, i < n → menuB (F i) = true → wr.heap[MB i]? = some (menuObj (F i) (CV i))
  kids : ∀ i, i < n → menuB (F i) = true → wr.ownsRow (w.heap.size + 1) 47 1 (CV i) (K i).length (ptrs ((K i).map MB)) ∧ CV i ≠ .slice none 0 0
  roots : wr.ownsRow (w.heap.size + 1) 47 1 vr R.length (ptrs (R.map MB)) ∧ vr ≠ .slice none 0 0
  apart : ∀ i j, i < n → j < n → i ≠ j → menuB (F i) = true → menuB (F j) = true → (CV i).ownBlock ≠ (CV j).ownBlock
  rapart : ∀ i, i < n → menuB (F i) = true → (CV i).ownBlock ≠ vr.ownBlock
  inj : ∀ i j, i < n → j < n → i ≠ j → menuB (F i) = true → menuB (F j) = true → MB i ≠ MB j
  lo : ∀ i, i < n → menuB (F i) = true → w.heap.size + 2 ≤ MB i
  below : Below w.heap.size w wr

theorem row_ne_menu {w : World} {base n : Nat} {v : Value} {xs : List Value} (h : w.ownsRow base 47 1 v n xs) {b : Nat} {f : Entry} {c : Value} (hb : w.heap[b]? = some (menuObj f c)) : some b ≠ v.ownBlock := fun e => by
  rcases h.2 with ⟨rfl, _⟩ | ⟨g, cap, cur, rfl, _, hg, _⟩
  · simp [Value.ownBlock] at e
  · simp [Value.ownBlock] at e
    subst e
    rw [hb] at hg
    simp [menuObj] at hg
theorem row_ne_map {w : World} {base n : Nat} {v : Value} {xs : List Value} (h : w.ownsRow (base + 1) 47 1 v n xs) : some base ≠ v.ownBlock := fun e => by
  have := (h.lt base e.symm).1
  omega
theorem own_lt {w : World} {base n : Nat} {v : Value} {xs : List Value} (h : w.ownsRow base 47 1 v n xs) (hv : v ≠ .slice none 0 0) : ∃ g, v.ownBlock = some g ∧ g < w.heap.size := by
  rcases h.2 with ⟨rfl, _⟩ | ⟨g, cap, cur, rfl, _, hg, _⟩
  · exact absurd rfl hv
  · exact ⟨g, rfl, (Array.getElem?_eq_some_iff.1 hg).1⟩

theorem T2.start {w wr : World} {F : Nat → Entry} {n : Nat} {MB : Nat → Nat} {D : DataW Unit} (h : T1 w F n MB D wr) :
    T2 w F n MB (fun i => .slice (some ⟨MB i - 1, 0, none⟩) 0 0) (fun _ => []) (.slice (some ⟨wr.heap.size, 0, none⟩) 0 0) [] D (wr.alloc (.cells #[] 47)) := by
  have hlt := h.map.lt
  have hold : ∀ b, b < wr.heap.size → (wr.alloc (.cells #[] 47)).heap[b]? = wr.heap[b]? := fun b hb => Below.heap_alloc _ _ _ hb
  refine ⟨h.map.alloc _, h.knows, fun i hi hm => ?_, fun i hi hm => ⟨⟨rfl, .inr ⟨MB i - 1, 0, #[], rfl, ?_, ?_, Nat.le_refl _, Nat.zero_le _, rfl, rfl⟩⟩, by simp⟩, ⟨⟨rfl, .inr ⟨wr.heap.size, 0, #[], rfl, by omega, ?_, Nat.le_refl _, Nat.zero_le _, rfl, rfl⟩⟩, by simp⟩,
    fun i j hi hj hne hmi hmj => ?_, fun i hi hm => ?_, fun i j hi hj hne hmi hmj => ?_, fun i hi hm => (h.lo i hi hm).1, h.below.alloc h.below.size _⟩
  · rw [hold _ (h.lo i hi hm).2]; exact h.menu i hi hm
  · have := h.lo i hi hm; omega
  · have := h.lo i hi hm
    rw [hold _ (by omega)]; exact h.row i hi hm
  · exact heap_alloc_new wr _
  · simp only [Value.ownBlock]
    intro e
    simp at e
    have a := h.lo i hi hmi
    have b := h.lo j hj hmj
    rcases Nat.lt_or_gt_of_ne hne with hlt' | hlt'
    · have := h.ord i j hlt' hj hmi hmj; omega
    · have := h.ord j i hlt' hi hmj hmi; omega
  · simp only [Value.ownBlock]
    intro e
    simp at e
    have := h.lo i hi hm
    omega
  · rcases Nat.lt_or_gt_of_ne hne with hlt' | hlt'
    · have := h.ord i j hlt' hj hmi hmj; omega
    · have := h.ord j i hlt' hi hmj hmi; omega

theorem T2.root {w wr w1 : World} {F : Nat → Entry} {n : Nat} {MB : Nat → Nat} {CV : Nat → Value} {K : Nat → List Nat} {vr v' : Value} {R : List Nat} {D : DataW Unit} (h : T2 w F n MB CV K vr R D wr) {i : Nat} {o : Obj}
    (hown : w1.ownsRow (w.heap.size + 1) 47 1 v' (R.length + 1) (ptrs (R.map MB) ++ [.pointer (some ⟨MB i, 0, none⟩)])) (hg : (wr.alloc o).grownBy w1 vr.ownBlock) (hne : v' ≠ .slice none 0 0)
    (hloc : v'.ownBlock = vr.ownBlock ∨ v'.ownBlock = some (wr.heap.size + 1)) : T2 w F n MB CV K v' (R ++ [i]) D w1 := by
  have hr := h.roots.1
  have hold : ∀ b, b < wr.heap.size → some b ≠ vr.ownBlock → w1.heap[b]? = wr.heap[b]? := fun b hb hne => (hg.block b (by simp; omega) hne).trans (Below.heap_alloc _ _ _ hb)
  refine ⟨(h.map.alloc o).kept hg (row_ne_map hr), h.knows, fun i hi hm => ?_, fun i hi hm => ⟨((h.kids i hi hm).1.alloc o).kept hg (.inr (h.rapart i hi hm)), (h.kids i hi hm).2⟩, ⟨?_, hne⟩, h.apart, fun i hi hm => ?_, h.inj, h.lo, ?_⟩
  · have hm' := h.menu i hi hm
    rw [hold _ (Array.getElem?_eq_some_iff.1 hm').1 (row_ne_menu hr hm')]
    exact hm'
  · rw [List.length_append, List.map_append, List.map_cons, List.map_nil, ptrs_snoc]
    exact hown
  · rcases hloc with e | e
    · rw [e]; exact h.rapart i hi hm
    · rw [e]
      obtain ⟨g, hg', hlt⟩ := own_lt (h.kids i hi hm).1 (h.kids i hi hm).2
      rw [hg']
      intro e2
      simp at e2
      omega
  · have hb := h.below.size
    exact (h.below.alloc hb o).grown hg (by simp; omega) (fun j hj => by have := (hr.lt j hj).1; omega)

def putV (CV : Nat → Value) (j : Nat) (v : Value) (i : Nat) : Value := if i = j then v else CV i
def putK (K : Nat → List Nat) (j : Nat) (l : List Nat) (i : Nat) : List Nat := if i = j then l else K i

theorem T2.child {w wr w1 : World} {F : Nat → Entry} {n : Nat} {MB : Nat → Nat} {CV : Nat → Value} {K : Nat → List Nat} {vr v' : Value} {R : List Nat} {D : DataW Unit} (h : T2 w F n MB CV K vr R D wr) {i j : Nat} (hj : j < n) (hmj : menuB (F j) = true) {o : Obj}
    (hown : w1.ownsRow (w.heap.size + 1) 47 1 v' ((K j).length + 1) (ptrs ((K j).map MB) ++ [.pointer (some ⟨MB i, 0, none⟩)])) (hg : (wr.alloc o).grownBy w1 (CV j).ownBlock) (hne : v' ≠ .slice none 0 0)
    (hloc : v'.ownBlock = (CV j).ownBlock ∨ v'.ownBlock = some (wr.heap.size + 1)) : T2 w F n MB (putV CV j v') (putK K j (K j ++ [i])) vr R D (w1.setCell ⟨MB j, 3, none⟩ v') := by
  have hr := (h.kids j hj hmj).1
  have hold : ∀ b, b < wr.heap.size → some b ≠ (CV j).ownBlock → w1.heap[b]? = wr.heap[b]? := fun b hb hne => (hg.block b (by simp; omega) hne).trans (Below.heap_alloc _ _ _ hb)
  have hmen : ∀ i, i < n → menuB (F i) = true → w1.heap[MB i]? = some (menuObj (F i) (CV i)) := fun i hi hm => by
    have hm' := h.menu i hi hm
    rw [hold _ (Array.getElem?_eq_some_iff.1 hm').1 (row_ne_menu hr hm')]
    exact hm'
  have hset : ∀ b, b ≠ MB j → (w1.setCell ⟨MB j, 3, none⟩ v').heap[b]? = w1.heap[b]? := fun b hb => heap_setCell_other w1 _ b v' hb
  have hgs : w1.grownBy (w1.setCell ⟨MB j, 3, none⟩ v') (some (MB j)) := ⟨rfl, rfl, rfl, by simp [World.setCell], fun k _ hk => hset k (fun e => hk (by rw [e]))⟩
  have hownj : w1.ownsRow (w.heap.size + 1) 47 1 v' ((K j).length + 1) (ptrs ((K j).map MB) ++ [.pointer (some ⟨MB i, 0, none⟩)]) := hown
  have hMw : MB j ≠ w.heap.size := fun e => by
    have hm' := h.menu j hj hmj
    rw [e] at hm'
    obtain ⟨es, cl, hb, _⟩ := h.map
    rw [hb] at hm'
    simp [menuObj] at hm'
  have hrow1 : ∀ {v : Value} {m : Nat} {xs : List Value}, w1.ownsRow (w.heap.size + 1) 47 1 v m xs → (w1.setCell ⟨MB j, 3, none⟩ v').ownsRow (w.heap.size + 1) 47 1 v m xs := fun {v m xs} hv => hv.kept hgs (.inr (fun e => row_ne_menu hv (hmen j hj hmj) e.symm))
  refine ⟨((h.map.alloc o).kept hg (row_ne_map hr)).kept hgs (fun e => hMw (by simpa using e.symm)), h.knows, fun a ha hma => ?_, fun a ha hma => ?_, ⟨hrow1 ((h.roots.1.alloc o).kept hg (.inr (fun e => h.rapart j hj hmj e.symm))), h.roots.2⟩, fun a b ha hb hab hma hmb => ?_, fun a ha hma => ?_, h.inj, h.lo, ?_⟩
  · by_cases e : a = j
    · subst e
      have := heap_setCell_same w1 (MB a) 3 _ 49 v' (hmen a ha hma)
      rw [this]
      simp [putV, menuObj]
    · rw [hset _ (h.inj a j ha hj e hma hmj), hmen a ha hma]
      simp [putV, e]
  · by_cases e : a = j
    · subst e
      simp only [putV, putK, if_true]
      refine ⟨hrow1 ?_, hne⟩
      rw [List.length_append, List.map_append, List.map_cons, List.map_nil, ptrs_snoc]
      exact hown
    · simp only [putV, putK, if_neg e]
      exact ⟨hrow1 (((h.kids a ha hma).1.alloc o).kept hg (.inr (h.apart a j ha hj e hma hmj))), (h.kids a ha hma).2⟩
  · have hnew : ∀ c, c < n → menuB (F c) = true → c ≠ j → (CV c).ownBlock ≠ v'.ownBlock := fun c hc hmc hcj => by
      rcases hloc with e | e
      · rw [e]; exact h.apart c j hc hj hcj hmc hmj
      · rw [e]
        obtain ⟨g, hg', hlt⟩ := own_lt (h.kids c hc hmc).1 (h.kids c hc hmc).2
        rw [hg']
        intro e2
        simp at e2
        omega
    by_cases ea : a = j
    · have eb : b ≠ j := fun e => hab (ea.trans e.symm)
      simp only [putV, if_pos ea, if_neg eb]
      exact fun e => hnew b hb hmb eb e.symm
    · by_cases eb : b = j
      · simp only [putV, if_neg ea, if_pos eb]
        exact hnew a ha hma ea
      · simp only [putV, if_neg ea, if_neg eb]
        exact h.apart a b ha hb hab hma hmb
  · by_cases e : a = j
    · simp only [putV, if_pos e]
      rcases hloc with e2 | e2
      · rw [e2]; exact h.rapart j hj hmj
      · rw [e2]
        obtain ⟨g, hg', hlt⟩ := own_lt h.roots.1 h.roots.2
        rw [hg']
        intro e3
        simp at e3
        omega
    · simp only [putV, if_neg e]
      exact h.rapart a ha hma
  · have hb := h.below.size
    refine ((h.below.alloc hb o).grown hg (by simp; omega) (fun c hc => by have := (hr.lt c hc).1; omega)).setCell ?_ _
    have := h.lo j hj hmj
    show w.heap.size ≤ MB j
    omega

theorem T2.congr {w wr : World} {F : Nat → Entry} {n : Nat} {MB : Nat → Nat} {CV : Nat → Value} {K K' : Nat → List Nat} {vr : Value} {R : List Nat} {D : DataW Unit} (h : T2 w F n MB CV K vr R D wr) (hk : ∀ i, i < n → menuB (F i) = true → K i = K' i) : T2 w F n MB CV K' vr R D wr :=
  ⟨h.map, h.knows, h.menu, fun i hi hm => by rw [← hk i hi hm]; exact h.kids i hi hm, h.roots, h.apart, h.rapart, h.inj, h.lo, h.below⟩

/-! ### Which menus stand where -/
def rootB (F : Nat → Entry) (i : Nat) : Bool := menuB (F i) && (F i).parent.toList.isEmpty
def kidB (F : Nat → Entry) (j i : Nat) : Bool := menuB (F i) && !(F i).parent.toList.isEmpty && ((F i).parent.toList == (F j).code.toList)
def rootsTo (F : Nat → Entry) (k : Nat) : List Nat := (List.range k).filter (rootB F)
def kidsTo (F : Nat → Entry) (k j : Nat) : List Nat := (List.range k).filter (kidB F j)

theorem filter_succ (p : Nat → Bool) (k : Nat) : (List.range (k + 1)).filter p = (List.range k).filter p ++ (if p k = true then [k] else []) := by
  rw [List.range_succ, List.filter_append]
  cases h : p k <;> simp [h]

theorem toList_inj {a b : ByteArray} (h : (a.toList == b.toList) = true) : a = b := by
  have := eq_of_beq h
  rw [ByteArray.toList_eq, ByteArray.toList_eq] at this
  exact Go.WideShapes.bytes_inj this

def TreePost (n : Nat) (F : Nat → Entry) (w : World) (e : Ending) (w' : World) : Prop := ∃ MB CV vr D, e = .returned vr ∧ T2 w F n MB CV (kidsTo F n) vr (rootsTo F n) D w'

theorem T2.look {w wr : World} {F : Nat → Entry} {n : Nat} {MB : Nat → Nat} {CV : Nat → Value} {K : Nat → List Nat} {vr : Value} {R : List Nat} {D : DataW Unit} (h : T2 w F n MB CV K vr R D wr) {s : ByteArray} (hs : s.size ≤ maxLen) {j : Nat} (hj : j < n) (hm : menuB (F j) = true) (hc : (F j).code = s) :
    (Instr.lookup 55 (.map (some w.heap.size)) (.string s) false).run Try.prog wr = .ok (.pointer (some ⟨MB j, 0, none⟩)) wr := by
  obtain ⟨v, ps, hrun, hv⟩ := h.map.lookup law Try.underlying55 (zero47 wr) (zd := .lit (.int .i64 (-1))) (zp := []) rfl (keyOf_string_mk Try.underlying9 hs)
  rw [(h.knows.2 s).1 j hj hm hc] at hv
  rw [hrun, ptrElem_some hv]
theorem T2.look_no {w wr : World} {F : Nat → Entry} {n : Nat} {MB : Nat → Nat} {CV : Nat → Value} {K : Nat → List Nat} {vr : Value} {R : List Nat} {D : DataW Unit} (h : T2 w F n MB CV K vr R D wr) {s : ByteArray} (hs : s.size ≤ maxLen) (hall : ∀ i, i < n → menuB (F i) = true → (F i).code ≠ s) :
    (Instr.lookup 55 (.map (some w.heap.size)) (.string s) false).run Try.prog wr = .ok (.pointer none) wr := by
  obtain ⟨v, ps, hrun, hv⟩ := h.map.lookup law Try.underlying55 (zero47 wr) (zd := .lit (.int .i64 (-1))) (zp := []) rfl (keyOf_string_mk Try.underlying9 hs)
  rw [(h.knows.2 s).2 hall] at hv
  rw [hrun, ptrElem_none hv]
theorem menu_cell {w : World} {b : Nat} {f : Entry} {v : Value} (h : w.heap[b]? = some (menuObj f v)) : w.cell? ⟨b, 0, none⟩ = some (.string f.code) ∧ w.cell? ⟨b, 1, none⟩ = some (.string f.name) ∧ w.cell? ⟨b, 2, none⟩ = some (.string f.url) ∧ w.cell? ⟨b, 3, none⟩ = some v ∧ w.frozen? ⟨b, 3, none⟩ = false := by
  unfold menuObj at h
  simp only [cell_of_row _ _ _ _ _ _ h, frozen_of_row _ _ _ _ _ h]
  exact ⟨rfl, rfl, rfl, rfl, trivial⟩

/-- A round that links nothing. -/
theorem to_skip {F : Nat → Entry} {n t : Nat} (hr : rootB F t = false) (hk : ∀ j, j < n → menuB (F j) = true → kidB F j t = false) : rootsTo F (t + 1) = rootsTo F t ∧ ∀ j, j < n → menuB (F j) = true → kidsTo F t j = kidsTo F (t + 1) j := by
  refine ⟨by unfold rootsTo; rw [filter_succ, hr]; simp, fun j hj hm => by unfold kidsTo; rw [filter_succ, hk j hj hm]; simp⟩

set_option maxHeartbeats 2000000 in
set_option maxRecDepth 100000 in
theorem tree_any (x : Addr) (n cap : Nat) (F : Nat → Entry) (w : World) (h : PermsAt w (some x) n F) (hn : n ≤ 65536) (hsm : ∀ i, i < n → (F i).small) (hdc : ∀ i j, i < n → j < n → i ≠ j → (F i).code ≠ (F j).code) :
    Calls Try.prog 18 #[.slice (some x) n cap] w (TreePost n F w) := by
  have hmm := @run_makeMap Try.prog
  have hst := T1.start w F
  obtain ⟨hm, hc⟩ := h
  have HC := hide hc
  have HD := hide hdc
  have HSM := hide hsm
  clear hc hdc hsm hm
  go_enter Try.func18, Try.ntmps18
  go_wp2
  go_loopw [14] (fun i wr => ∃ k : Nat, k ≤ n ∧ i = .int .i64 k ∧ ∃ MB D, T1 w F k MB D wr) (fun i _ => n - (intOf i).toNat)
  case atStart => exact ⟨0, Nat.zero_le _, rfl, _, _, hst⟩
  case round =>
    clear hmm hst
    obtain ⟨k, hk, rfl, MB, D, T⟩ := hrel
    by_cases hlt : k < n
    · obtain ⟨b, hx, hcc⟩ := HC.out (by omega)
      obtain rfl : x = ⟨b, 0, none⟩ := by simpa using hx
      obtain ⟨pb, q1, q2⟩ := hcc k hlt
      have d1 := (T.below.cell (p := ⟨b, k, none⟩) (World.block_lt_of_cell? w _ q1)).trans q1
      obtain ⟨h0, h1, h2, h3, h4, h5, h6, h7⟩ := q2.mono T.below q2.lt
      simp only [Nat.zero_add] at h0 h1 h2 h3 h4 h5 h6 h7
      have hpb : pb < wr.heap.size := Nat.lt_of_lt_of_le q2.lt T.below.size
      have hsc := (HSM.out k hlt).1
      clear hcc hx q1 q2
      cases ht : ((F k).type.toList == [109, 101, 110, 117]) with
      | true =>
        obtain ⟨wu, hrun, hmap1, hg1⟩ := (((T.map.alloc (.cells #[] 47)).alloc (.cells #[.string (F k).code, .string (F k).name, .string (F k).url, .slice (some ⟨wr.heap.size, 0, none⟩) 0 0] 49)).drew).update law Try.underlying55 (by unfold maxLen; omega) (keyOf_string_mk Try.underlying9 hsc) (val := .pointer (some ⟨wr.heap.size + 1, 0, none⟩)) (d := .lit (.int .i64 ((wr.heap.size + 1 : Nat) : Int))) (ps := []) rfl
        have HT := hide (T.step ht (fun i hi => HD.out i k (by omega) hlt (by omega)) hmap1 hg1)
        clear hmap1 hg1 T hsc
        generalize hf : F k = f at h0 h1 h2 h3 h4 h5 h6 h7 ht hrun HT
        clear hf
        obtain ⟨f0, f1, f2, f3, f4, f5, f6, f7⟩ := f
        simp only at h0 h1 h2 h3 h4 h5 h6 h7 ht hrun HT
        go_upto_region 6 with fail
        go_region
        go_wp2
        go_roundw
        case rel => exact ⟨k + 1, by omega, by go_num, _, _, HT.out⟩
        case measure => simp [intOf]; omega
      | false =>
        have HT := hide (T.skip ht)
        clear T
        go_wp2
        go_roundw
        case rel => exact ⟨k + 1, by omega, by go_num, _, _, HT.out⟩
        case measure => simp [intOf]; omega
    · obtain rfl : k = n := by omega
      have HT2 := hide (T2.start T)
      clear T hlt hk
      obtain ⟨i47, hi47, hz0, hz1, hz2⟩ := info_parts info47
      go_wp2
      go_loopw [6, 47] (fun vr i wr => ∃ t : Nat, t ≤ k ∧ i = .int .i64 t ∧ ∃ CV, T2 w F k MB CV (kidsTo F t) vr (rootsTo F t) D wr) (fun _ i _ => k - (intOf i).toNat)
      case atStart => exact ⟨0, Nat.zero_le _, rfl, _, HT2.out⟩
      case round =>
        clear HT2
        obtain ⟨t, ht, rfl, CV, T⟩ := hrel
        by_cases hlt : t < k
        · obtain ⟨b, hx, hcc⟩ := HC.out (by omega)
          obtain rfl : x = ⟨b, 0, none⟩ := by simpa using hx
          obtain ⟨pb, q1, q2⟩ := hcc t hlt
          have d1 := (T.below.cell (p := ⟨b, t, none⟩) (World.block_lt_of_cell? w _ q1)).trans q1
          obtain ⟨h0, h1, h2, h3, h4, h5, h6, h7⟩ := q2.mono T.below q2.lt
          simp only [Nat.zero_add] at h0 h1 h2 h3 h4 h5 h6 h7
          have hsz := T.below.size
          have hmlt := T.map.lt
          obtain ⟨hsc, _, _, _, _, hsp, _⟩ := HSM.out t hlt
          clear hcc hx q1 q2 h1 h2 h3 h4 h6 h7
          cases hmen : menuB (F t) with
          | false =>
            have hrun := T.look_no hsc (fun i hi hm e => HD.out i t hi hlt (fun e2 => by rw [e2, hmen] at hm; cases hm) e)
            obtain ⟨e1, e2⟩ := to_skip (n := k) (F := F) (t := t) (by simp [rootB, hmen]) (fun j _ _ => by simp [kidB, hmen])
            have HT := hide (e1 ▸ T.congr e2)
            clear T e1 e2 hmen
            go_wp2
            go_roundw
            case rel => exact ⟨t + 1, by omega, by go_num, CV, HT.out⟩
            case measure => simp [intOf]; omega
          | true =>
            have hrun := T.look hsc hlt hmen rfl
            cases hp : (F t).parent.toList.isEmpty with
            | true =>
              have hroots := T.roots.1
              have HT := hide T
              have e1 : rootsTo F (t + 1) = rootsTo F t ++ [t] := by unfold rootsTo; rw [filter_succ]; simp [rootB, hmen, hp]
              have e2 : ∀ j, j < k → menuB (F j) = true → kidsTo F t j = kidsTo F (t + 1) j := fun j _ _ => by unfold kidsTo; rw [filter_succ]; simp [kidB, hp]
              have hrl : (rootsTo F t).length ≤ t := by
                have := List.length_filter_le (rootB F) (List.range t)
                simpa [rootsTo] using this
              have E1 := hide e1
              have E2 := hide e2
              clear T e1 e2 hmen
              go_wp2_with (at_builtin; refine wpList_append_own_at _ rfl _ _ 35 rfl (w.heap.size + 1) 47 i47 _ 1 8 Try.underlying35 hi47 hz0 hz1 hz2 rfl (by decide) _ _ _ rfl (hroots.alloc _) ⟨wr.heap.size, 0, none⟩ 1 1 [.pointer (some ⟨MB t, 0, none⟩)] rfl rfl (one_new (by simp) _ _) (ptr_cell _) (by unfold maxLen; omega) (by omega) (by simp; omega) ?_)
              intro v' w1 hown1 hg1 hne1 hloc1
              have HT1 := hide (E1.out ▸ (HT.out.root (i := t) hown1 hg1 hne1 (by simpa using hloc1)).congr E2.out)
              clear hown1 hg1 hne1 hloc1 hroots
              go_wp2
              go_roundw
              case rel => exact ⟨t + 1, by omega, by go_num, CV, HT1.out⟩
              case measure => simp [intOf]; omega
            | false =>
              by_cases hex : ∃ j, j < k ∧ menuB (F j) = true ∧ (F j).code = (F t).parent
              · obtain ⟨j, hj, hmj, hcj⟩ := hex
                have hrun2 := T.look hsp hj hmj hcj
                obtain ⟨_, _, _, c3, _⟩ := menu_cell (T.menu j hj hmj)
                have hkids := (T.kids j hj hmj).1
                have hkl : (kidsTo F t j).length ≤ t := by
                  have := List.length_filter_le (kidB F j) (List.range t)
                  simpa [kidsTo] using this
                have HT := hide T
                have hcell : ∀ {w1 : World} {o : Obj}, (wr.alloc o).grownBy w1 (CV j).ownBlock → w1.heap[MB j]? = some (menuObj (F j) (CV j)) := fun {w1 o} hg => by
                  have hm' := HT.out.menu j hj hmj
                  have hl' := (Array.getElem?_eq_some_iff.1 hm').1
                  rw [hg.block _ (by simp; omega) (row_ne_menu hkids hm'), Below.heap_alloc _ _ _ hl']
                  exact hm'
                have HCELL := hide (fun w1 o => @hcell w1 o)
                have e1 : rootsTo F (t + 1) = rootsTo F t := by unfold rootsTo; rw [filter_succ]; simp [rootB, hp]
                have e2 : ∀ a, a < k → menuB (F a) = true → putK (kidsTo F t) j (kidsTo F t j ++ [t]) a = kidsTo F (t + 1) a := fun a ha hma => by
                  unfold putK
                  by_cases e : a = j
                  · rw [if_pos e, e]
                    unfold kidsTo
                    rw [filter_succ]
                    simp [kidB, hmen, hp, hcj]
                  · rw [if_neg e]
                    unfold kidsTo
                    rw [filter_succ]
                    have : kidB F a t = false := by
                      unfold kidB
                      have hne : ((F t).parent.toList == (F a).code.toList) = false := by
                        cases hb : ((F t).parent.toList == (F a).code.toList) with
                        | false => rfl
                        | true => exact absurd ((toList_inj hb).symm.trans hcj.symm) (HD.out a j ha hj e)
                      rw [hne]; simp
                    rw [this]; simp
                have E1 := hide e1
                have E2 := hide e2
                have HMJ := hide hmj
                clear T e1 e2 hmen hcj hmj hcell
                generalize hcv : CV j = cv at c3 hkids HCELL
                have HCV := hide hcv
                clear hcv
                go_wp2_with (at_builtin; refine wpList_append_own_at _ rfl _ _ 35 rfl (w.heap.size + 1) 47 i47 _ 1 8 Try.underlying35 hi47 hz0 hz1 hz2 rfl (by decide) _ _ _ rfl (hkids.alloc _) ⟨wr.heap.size, 0, none⟩ 1 1 [.pointer (some ⟨MB t, 0, none⟩)] rfl rfl (one_new (by simp) _ _) (ptr_cell _) (by unfold maxLen; omega) (by omega) (by simp; omega) ?_)
                intro v' w1 hown1 hg1 hne1 hloc1
                obtain ⟨_, _, _, g3, f3⟩ := menu_cell (HCELL.out w1 _ hg1)
                have HT1 := hide (E1.out ▸ (HT.out.child (i := t) hj HMJ.out hown1 (by rw [HCV.out]; exact hg1) hne1 (by rw [HCV.out]; simpa using hloc1)).congr E2.out)
                have hform : ∃ g' c', v' = .slice (some ⟨g', 0, none⟩) ((kidsTo F t j).length + 1) c' := by
                  rcases hown1.2 with ⟨h9, _⟩ | ⟨g', c', cur, h9, _⟩
                  · exact absurd h9 hne1
                  · exact ⟨g', c', h9⟩
                clear hown1 hg1 hne1 hloc1 hkids c3
                obtain ⟨g', c', rfl⟩ := hform
                go_wp2
                go_roundw
                case rel => exact ⟨t + 1, by omega, by go_num, _, HT1.out⟩
                case measure => simp [intOf]; omega
              · have hrun2 := T.look_no hsp (fun i hi hm e => hex ⟨i, hi, hm, e⟩)
                obtain ⟨e1, e2⟩ := to_skip (n := k) (F := F) (t := t) (by simp [rootB, hp]) (fun j hj hm => by
                  unfold kidB
                  have hne : ((F t).parent.toList == (F j).code.toList) = false := by
                    cases hb : ((F t).parent.toList == (F j).code.toList) with
                    | false => rfl
                    | true => exact absurd ⟨j, hj, hm, (toList_inj hb).symm⟩ hex
                  rw [hne]; simp)
                have HT := hide (e1 ▸ T.congr e2)
                clear T e1 e2 hmen hex
                go_wp2
                go_roundw
                case rel => exact ⟨t + 1, by omega, by go_num, CV, HT.out⟩
                case measure => simp [intOf]; omega
        · obtain rfl : t = k := by omega
          go_wp2
          go_ret
          exact ⟨MB, CV, _, D, rfl, T⟩
end Menu
end Go.Proofs.Qxb6603473a
