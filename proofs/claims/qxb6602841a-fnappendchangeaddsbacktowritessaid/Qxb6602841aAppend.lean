import Derived.Test.Qxb6602841aCopy
namespace Go.Proofs.Qxb6602841a
open Go.RowKit Go.Maps Go.WideMaps

theorem law : Keyed Try.prog 9 := string_keyed Try.underlying9
theorem zero2 (w : World) : (zeroValue 2).run Try.prog w = .ok (.int .i64 0) w := by kernel_rfl
theorem made53 (n : Int) (w : World) : (Instr.makeMap 53 (some (.int .i64 n))).run Try.prog w = .ok (.map (some w.heap.size)) (w.alloc (.map #[] 0)) := rfl

/-- What the map D holds: the last of the first k reads of each item. -/
def Knows (D : DataW Unit) (S : Nat → ByteArray) (V : Nat → Int) (k : Nat) : Prop :=
  Maps.IsMap D ∧ ∀ s : ByteArray, Maps.has D (.string s.data.toList) = (lastR S V s k).isSome ∧ D.atKey (.string s.data.toList) (.lit (.int .i64 0)) = .lit (.int .i64 ((lastR S V s k).getD 0))

theorem knows_empty (S : Nat → ByteArray) (V : Nat → Int) : Knows (.map []) S V 0 := ⟨Maps.isMap_empty, fun _ => ⟨rfl, rfl⟩⟩

theorem Knows.step {D : DataW Unit} {S : Nat → ByteArray} {V : Nat → Int} {k : Nat} (h : Knows D S V k) : Knows (D.put (.string (S k).data.toList) (.lit (.int .i64 (V k)))) S V (k + 1) := by
  refine ⟨h.1.put _ _, fun s => ?_⟩
  have hk : WideAt.IsKeyLit (.string (S k).data.toList) := trivial
  by_cases e : s.data.toList = (S k).data.toList
  · rw [e, Maps.has_put_same h.1 hk, Maps.atKey_put_same h.1 hk]
    have : ((S k).toList == s.toList) = true := by rw [ByteArray.toList_eq, ByteArray.toList_eq, e]; simp
    simp [lastR, this]
  · have hne : Lit.string s.data.toList ≠ .string (S k).data.toList := fun h => e (by simpa using h)
    rw [Maps.has_put_other hne, Maps.atKey_put_other hne]
    have : ((S k).toList == s.toList) = false := by rw [ByteArray.toList_eq, ByteArray.toList_eq]; exact beq_eq_false_iff_ne.2 fun h => e h.symm
    simp only [lastR, this]
    exact h.2 s

/-- The cells of the first k pairs. -/
def flat (S : Nat → ByteArray) (V : Nat → Int) : Nat → List Value
  | 0 => []
  | k + 1 => flat S V k ++ [.string (S k), .int .i64 (V k)]

/-- What is appended for the i-th write. -/
def diff (Sr : Nat → ByteArray) (Vr : Nat → Int) (nr : Nat) (Sw : Nat → ByteArray) (Vw : Nat → Int) (i : Nat) : Int := wrap64 (Vw i - (lastR Sr Vr (Sw i) nr).getD 0)

/-- k: how many writes stand ahead of the first blind one. -/
def Scan (Sr : Nat → ByteArray) (Vr : Nat → Int) (nr : Nat) (Sw : Nat → ByteArray) (nw k : Nat) (blind : Bool) : Prop :=
  k ≤ nw ∧ (∀ i, i < k → (lastR Sr Vr (Sw i) nr).isSome = true) ∧ ((k = nw ∧ blind = false) ∨ (k < nw ∧ (lastR Sr Vr (Sw k) nr).isSome = false ∧ blind = true))

theorem Scan.uniq {Sr : Nat → ByteArray} {Vr : Nat → Int} {nr : Nat} {Sw : Nat → ByteArray} {nw k k' : Nat} {b b' : Bool} (h : Scan Sr Vr nr Sw nw k b) (h' : Scan Sr Vr nr Sw nw k' b') : k = k' ∧ b = b' := by
  obtain ⟨h1, h2, h3⟩ := h
  obtain ⟨g1, g2, g3⟩ := h'
  have e : k = k' := by
    rcases Nat.lt_trichotomy k k' with hlt | he | hlt
    · have := g2 k hlt
      rcases h3 with ⟨a, _⟩ | ⟨_, a, _⟩
      · omega
      · rw [a] at this; cases this
    · exact he
    · have := h2 k' hlt
      rcases g3 with ⟨a, _⟩ | ⟨_, a, _⟩
      · omega
      · rw [a] at this; cases this
  subst e
  refine ⟨rfl, ?_⟩
  rcases h3 with ⟨a, rfl⟩ | ⟨a, _, rfl⟩ <;> rcases g3 with ⟨c, rfl⟩ | ⟨c, _, rfl⟩ <;> first | rfl | omega

theorem own_ne_map {w : World} {base : Nat} {v : Value} {n : Nat} {xs : List Value} {Bm k : Nat} {D : DataW Unit} (h : w.ownsRow base 45 2 v n xs) (hm : w.ownsMap Try.prog 9 (plainElem Try.prog 2) Bm k D) : some Bm ≠ v.ownBlock := by
  intro e
  obtain ⟨es, cl, hb, _⟩ := hm
  rcases h.2 with ⟨rfl, _⟩ | ⟨g, cap, cur, rfl, _, hg, _⟩
  · simp [Value.ownBlock] at e
  · simp [Value.ownBlock] at e
    subst e
    rw [hb] at hg
    cases hg

def AppPost (B : Nat) (wb : World) (nr nw : Nat) (Sr Sw : Nat → ByteArray) (Vr Vw : Nat → Int) (v0 : Value) (n0 : Nat) (cs : List Value) (e : Ending) (w' : World) : Prop :=
  ∃ v' k blind, e = .returned (.tuple #[v', .bool blind]) ∧ Scan Sr Vr nr Sw nw k blind ∧
      w'.ownsRow B 45 2 v' (n0 + k) (cs ++ flat Sw (diff Sr Vr nr Sw Vw) k) ∧ (v' = .slice none 0 0 ↔ v0 = .slice none 0 0 ∧ k = 0) ∧ Below B wb w'

set_option maxHeartbeats 1000000 in
theorem append_any (wb w : World) (rb : Nat) (xr xw : Option Addr) (nr nw capr capw : Nat) (Sr Sw : Nat → ByteArray) (Vr Vw : Nat → Int) (v0 : Value) (n0 : Nat) (cs : List Value)
    (hb : Below wb.heap.size wb w) (hr : Pairs wb xr nr Sr Vr) (hw : Pairs wb xw nw Sw Vw) (wfr : ∀ i, i < nr → (Lit.int .i64 (Vr i)).wf = true)
    (hc3 : wb.cell? ⟨rb, 3, none⟩ = some (.slice xr nr capr)) (hc4 : wb.cell? ⟨rb, 4, none⟩ = some (.slice xw nw capw))
    (hown : w.ownsRow wb.heap.size 45 2 v0 n0 cs) (hn0 : n0 ≤ 1048576) (hnw : nw ≤ 4096) (hnr : nr ≤ 4096) :
    Calls Try.prog 27 #[v0, .pointer (some ⟨rb, 0, none⟩)] w (AppPost wb.heap.size wb nr nw Sr Sw Vr Vw v0 n0 cs) := by
  obtain ⟨hmr, hcr⟩ := hr
  obtain ⟨hmw, hcw⟩ := hw
  unfold maxLen at hmr hcr hmw hcw
  have hrl := World.block_lt_of_cell? wb _ hc3
  have hrw : rb < w.heap.size := Nat.lt_of_lt_of_le hrl hb.size
  have d3 := (hb.cell (p := ⟨rb, 3, none⟩) hrl).trans hc3
  have d4 := (hb.cell (p := ⟨rb, 4, none⟩) hrl).trans hc4
  have HCR := hide hcr
  have HCW := hide hcw
  have HC3 := hide hc3
  have HC4 := hide hc4
  clear hcr hcw hc3 hc4
  have hmm := made53
  obtain ⟨i0, hi, hz0, hz1, hz2⟩ := info_parts Try.info45
  by_cases hz : nw = 0
  · subst hz
    go_enter Try.func27, Try.ntmps27
    go_wp2
    go_ret2
    exact ⟨_, 0, _, rfl, ⟨Nat.le_refl _, fun i hi => by omega, .inl ⟨rfl, rfl⟩⟩, by simpa [flat] using hown, by simp, hb⟩
  · have hz' : ((nw : Int) == 0) = false := beq_eq_false_iff_ne.2 (by omega)
    clear hz
    go_enter Try.func27, Try.ntmps27
    go_wp2
    go_loopw [31] (fun i wr => ∃ k : Nat, k ≤ nr ∧ i = .int .i64 k ∧ ∃ D, wr.ownsMap Try.prog 9 (plainElem Try.prog 2) w.heap.size k D ∧ Knows D Sr Vr k ∧ wr.ownsRow wb.heap.size 45 2 v0 n0 cs ∧ Below wb.heap.size wb wr) (fun i _ => nr - (intOf i).toNat)
    case atStart => exact ⟨0, Nat.zero_le _, rfl, _, World.ownsMap_made _ _ _ _, knows_empty _ _, hown.alloc _, hb.alloc hb.size _⟩
    case round =>
      clear d3 d4 hown
      obtain ⟨k, hk, rfl, D, hmap, hD, hown, hbr⟩ := hrel
      by_cases hlt : k < nr
      · obtain ⟨b, off, rfl, hcc⟩ := HCR.out (by omega)
        obtain ⟨c1, c2, c3⟩ := hcc k hlt
        have hbl := World.block_lt_of_cell? wb _ c1
        have d1 := (hbr.cell (p := ⟨b, off + k * 2, none⟩) hbl).trans c1
        have d2 := (hbr.cell (p := ⟨b, off + k * 2 + 1, none⟩) hbl).trans c2
        have wk := wfr k hlt
        clear hcc c1 c2
        go_wp2_with (first
          | (at_mapUpdate; refine wpList_mapUpdate_own _ rfl _ _ _ 53 rfl 9 2 law Try.underlying53 _ w.heap.size k _ rfl (hmap.alloc _) (by unfold maxLen; omega) _ _ _ rfl rfl (keyOf_string_mk Try.underlying9 (by unfold maxLen; omega)) _ [] (plainElem_int Try.underlying2 wk) ?_)
          | go_in)
        intro w1 hmap1 hg1
        have hne : v0.ownBlock ≠ some w.heap.size := fun e => own_ne_map hown hmap e.symm
        have R1 := (hown.alloc (.cells #[.string (Sr k), .int .i64 (Vr k)] 45)).kept hg1 (.inr hne)
        have R2 := (hbr.alloc hbr.size (.cells #[.string (Sr k), .int .i64 (Vr k)] 45)).grown hg1 (by simp; have := hbr.size; omega) (fun j hj => by cases hj; exact hb.size)
        have R3 := hD.step
        clear hg1 hown hbr hD d1 d2 hmap
        go_wp2
        go_roundw
        case rel => exact ⟨k + 1, by omega, by go_num, _, hmap1, R3, R1, R2⟩
        case measure => simp [intOf]; omega
      · obtain rfl : k = nr := by omega
        have d4 := (hbr.cell (p := ⟨rb, 4, none⟩) hrl).trans HC4.out
        clear HCR
        go_wp2
        go_loopw [0, 46] (fun v i wr => ∃ j : Nat, j ≤ nw ∧ i = .int .i64 j ∧ wr.ownsMap Try.prog 9 (plainElem Try.prog 2) w.heap.size k D ∧ (∀ i, i < j → (lastR Sr Vr (Sw i) k).isSome = true) ∧
          wr.ownsRow wb.heap.size 45 2 v (n0 + j) (cs ++ flat Sw (diff Sr Vr k Sw Vw) j) ∧ (v = .slice none 0 0 ↔ v0 = .slice none 0 0 ∧ j = 0) ∧ Below wb.heap.size wb wr) (fun _ i _ => nw - (intOf i).toNat)
        case atStart => exact ⟨0, Nat.zero_le _, rfl, hmap, fun i hi => by omega, by simpa [flat] using hown, by simp, hbr⟩
        case round =>
          clear hmap hown hbr d4
          obtain ⟨j, hj, rfl, hmap, hgood, hown, hnil, hbr⟩ := hrel
          by_cases hlt : j < nw
          · obtain ⟨b, off, rfl, hcc⟩ := HCW.out (by omega)
            obtain ⟨c1, c2, c3⟩ := hcc j hlt
            have hbl := World.block_lt_of_cell? wb _ c1
            have d1 := (hbr.cell (p := ⟨b, off + j * 2, none⟩) hbl).trans c1
            have d2 := (hbr.cell (p := ⟨b, off + j * 2 + 1, none⟩) hbl).trans c2
            obtain ⟨hhas, hat0⟩ := hD.2 (Sw j)
            have HAT := hide hat0
            clear hcc c1 c2 hat0
            cases hsome : (lastR Sr Vr (Sw j) k).isSome with
            | false =>
              rw [hsome] at hhas
              have HS := hide hsome
              have HG := hide hgood
              clear hsome hgood
              go_wp2_with (first
                | (at_lookup; refine wpList_lookup_own_ok_int _ rfl _ _ 53 rfl 9 2 .i64 law Try.underlying53 Try.underlying2 (zero2 _) w.heap.size k _ rfl (hmap.alloc _) _ _ rfl (keyOf_string_mk Try.underlying9 (by unfold maxLen; omega)) ?_; intro c hat hwc)
                | go_in)
              go_ret2
              exact ⟨_, j, _, rfl, ⟨Nat.le_of_lt hlt, HG.out, .inr ⟨hlt, HS.out, rfl⟩⟩, hown.alloc _, hnil, hbr.alloc hbr.size _⟩
            | true =>
              rw [hsome] at hhas
              have HS := hide hsome
              have HG := hide hgood
              clear hsome hgood
              go_wp2_with (first
                | (at_lookup; refine wpList_lookup_own_ok_int _ rfl _ _ 53 rfl 9 2 .i64 law Try.underlying53 Try.underlying2 (zero2 _) w.heap.size k _ rfl (hmap.alloc _) _ _ rfl (keyOf_string_mk Try.underlying9 (by unfold maxLen; omega)) ?_; intro c hat hwc)
                | (at_builtin; refine wpList_append_own _ rfl _ _ 35 rfl wb.heap.size 45 i0 _ 2 24 Try.underlying35 hi hz0 hz1 hz2 rfl (by decide) _ _ _ rfl ((hown.alloc _).alloc _) ⟨wr.heap.size + 1, 0, none⟩ 1 1 [.string (Sw j), .int .i64 (wrap64 (Vw j - c))] rfl rfl ?c1 ?c2 ?c3 ?c4 ?c5 ?_)
                | go_in)
              case c2 => exact ⟨rfl, rfl⟩
              case c3 => unfold maxLen; omega
              case c4 => omega
              case c5 => have := hbr.size; omega
              intro v' w1 hown1 hg1 hne1
              have hc : c = (lastR Sr Vr (Sw j) k).getD 0 := by
                have := HAT.out
                rw [hat] at this
                simpa using this
              have hd : diff Sr Vr k Sw Vw j = wrap64 (Vw j - c) := by rw [hc]; rfl
              have R1 : w1.ownsRow wb.heap.size 45 2 v' (n0 + (j + 1)) (cs ++ flat Sw (diff Sr Vr k Sw Vw) (j + 1)) := by
                simp only [flat, hd]
                exact hown1
              have R2 := ((hmap.alloc (.cells #[.string (Sw j), .int .i64 (Vw j)] 45)).alloc (.cells #[.string (Sw j), .int .i64 (wrap64 (Vw j - c))] 45)).kept hg1 (own_ne_map hown hmap)
              have R3 := ((hbr.alloc hbr.size (.cells #[.string (Sw j), .int .i64 (Vw j)] 45)).alloc (by simp; have := hbr.size; omega) (.cells #[.string (Sw j), .int .i64 (wrap64 (Vw j - c))] 45)).grown hg1 (by simp; have := hbr.size; omega) (fun g hg => (hown.lt g hg).1)
              have R4 : ∀ i, i < j + 1 → (lastR Sr Vr (Sw i) k).isSome = true := fun i hi => by
                by_cases e : i = j
                · subst e; exact HS.out
                · exact HG.out i (by omega)
              have H1 := hide R1
              have H4 := hide R4
              clear hown1 hg1 hc hd hat hown hmap hbr d1 d2 hhas hnil R1 R4
              go_wp2
              go_roundw
              case rel => exact ⟨j + 1, by omega, by go_num, R2, H4.out, H1.out, by simp [hne1], R3⟩
              case measure => simp [intOf]; omega
          · obtain rfl : j = nw := by omega
            go_wp2
            go_ret2
            exact ⟨_, j, _, rfl, ⟨Nat.le_refl _, hgood, .inl ⟨rfl, rfl⟩⟩, hown, hnil, hbr⟩
end Go.Proofs.Qxb6602841a
