import Derived.Test.Qxb6603715aRows
import Derived.Test.Qxb6603715aUn
import Derived.Test.Qxb6603715aClosed4
import Derived.WalkKit
import Derived.ProofKit
import Derived.OpenShut
import Derived.ShutString
namespace Go.Proofs.Qxb6603715a.fnUnescapeURIInvertsEscaping
open Go.ChangeShapes Go.WideShapes Go.ChangeAt Go.RowKit
open Uri
open Go.ChangeMaps (open_string shut_string)
set_option linter.unusedVariables false      -- a walk need not use every 'w<i>' (that an integer argument fits its kind)

theorem own : ownKnob Try.prog.godebug = none := by kernel_rfl

theorem bytes_any (s : ByteArray) (a1 a2 : Bool) (w0 : s.size ≤ maxLen) (w : World) : Calls Try.prog 8 #[.string s, .bool a1, .bool a2] w fun e w' => e = .returned (.bool (decide (s.size ≤ 1048576))) ∧ w' = w := by
  unfold maxLen at w0
  by_cases h : s.size ≤ 1048576
  · go_enter Try.func8, Try.ntmps8
    go_wp2
    go_ret
    exact ⟨by simp [h], rfl⟩
  · go_enter Try.func8, Try.ntmps8
    go_wp2
    go_ret
    exact ⟨by simp [h], rfl⟩

theorem un_any (all up : Bool) (f : Nat → Int) (n : Nat) (hf : ∀ i, 0 ≤ f i ∧ f i < 256) (hn : n ≤ 262144) (w : World) :
    Calls Try.prog 9 #[.string (strOfNums (escs all up f n))] w (UnPost f n w) := by
  have H := hide (unescape_any all up f n hf hn _ rfl w)
  generalize strOfNums (escs all up f n) = u at H
  go_enter Try.func9, Try.ntmps9
  go_wp2_with fail
  refine H.out.mono ?_
  rintro e w1 ⟨rfl, hb⟩
  go_wp2
  go_ret
  exact ⟨rfl, hb⟩

theorem firsts_bytes (s : ByteArray) : strOfNums (firsts (byteAt s) s.size) = s := by
  have hl : (strOfNums (firsts (byteAt s) s.size)).data.toList = s.data.toList := by
    rw [strOfNums_data]
    refine List.ext_getElem? fun i => ?_
    rw [List.getElem?_map]
    by_cases h : i < s.size
    · have h' : i < s.data.toList.length := by rw [Array.length_toList]; exact h
      rw [firsts_get _ _ _ h, List.getElem?_eq_getElem h']
      unfold byteAt
      rw [List.getD, List.getElem?_eq_getElem h']
      simp
    · have h' : s.data.toList.length ≤ i := by rw [Array.length_toList]; exact Nat.le_of_not_lt h
      rw [List.getElem?_eq_none h', List.getElem?_eq_none (by rw [firsts_len]; omega)]
      rfl
  cases s with
  | mk d =>
    have : (strOfNums (firsts (byteAt ⟨d⟩) (ByteArray.size ⟨d⟩))).data = d := Array.toList_inj.1 hl
    cases h : strOfNums (firsts (byteAt ⟨d⟩) (ByteArray.size ⟨d⟩)) with
    | mk d' => rw [h] at this; simpa using this

set_option maxHeartbeats 1000000 in
theorem walk (a0 : ByteArray) (a1 : Bool) (a2 : Bool) (w0 : a0.size ≤ maxLen) (w : World) :
    Calls Try.prog 4 #[.string a0, .bool a1, .bool a2] w fun e w' => e = .returned (.bool true) ∧ Below w.heap.size w w' := by
  have HB := hide (bytes_any a0 a1 a2 w0)
  unfold maxLen at w0
  by_cases h : a0.size ≤ 262144
  · have h2 : a0.size ≤ 1048576 := by omega
    have HE := hide (fun w => escape_any a0 a1 a2 w h)
    have HN := hide (fun w => un_any a1 a2 (byteAt a0) a0.size (byteAt_lt a0) h w)
    have hfb := firsts_bytes a0
    go_enter Try.func4, Try.ntmps4
    go_wp2_with fail
    refine (HB.out _).mono ?_
    rintro e w1 ⟨rfl, rfl⟩
    go_wp2_with fail
    refine (HE.out _).mono ?_
    rintro e w2 ⟨rfl, hb1⟩
    have HB1 := hide hb1
    clear hb1
    go_wp2_with fail
    refine (HN.out _).mono ?_
    rintro e w3 ⟨rfl, hb2⟩
    rw [hfb]
    have HB2 := hide hb2
    clear hb2 hfb
    go_wp2
    go_ret
    exact ⟨rfl, HB1.out.trans (HB2.out.mono HB1.out.size)⟩
  · go_enter Try.func4, Try.ntmps4
    go_wp2_with fail
    refine (HB.out _).mono ?_
    rintro e w1 ⟨rfl, rfl⟩
    go_wp2
    all_goals
      go_ret
      exact ⟨rfl, Below.refl _ _⟩

/-! ### THE ROW's STEP: WRITTEN OUT: LEAVE IT -/
set_option maxRecDepth 100000 in
theorem lifted (os : Os) (started : os.Started) (H : Type) (enc : TypeId × Value → H) :
    ReturnsInHanded {} Try.checked os 4 .any (Rows.fnUnescapeURIInvertsEscapingSpec.pre6 enc Try.prog Try.f4 Rows.fnUnescapeURIInvertsEscapingRow.domain false) (Rows.fnUnescapeURIInvertsEscapingSpec.post enc Try.prog Try.f4 false true false false) := by
  refine returnsInHanded_of_change (C := Try.checked) own started (by kernel_rfl) Try.func4
    (ChangeSpec.witness6 (enc := enc) (C := Try.checked) false ⟨#[], #[.string ByteArray.empty, .bool false, .bool false], []⟩ 8 (by kernel_rfl) (by kernel_rfl) (by kernel_rfl) (by kernel_rfl)) ?_
  intro W base args ds gs before hval0 hW hcnd _
  have hval : ∀ (j : Nat) t v, Try.f4.params[j]? = some t → args[j]? = some v → Value.okWide Try.prog W .any base t v := hval0
  have hW' := hW
  obtain ⟨p, q, hA0, hV, rfl, hfz, hnd⟩ := hW
  have hA : DataW.TrodAll enc Try.prog W 0 (fun _ => true) true Try.f4.params.toList args.toList ds p := hA0
  rw [Try.params4] at hA hval
  obtain ⟨v0, vs0, d0, ds0, p0, q0, hargs, rfl, rfl, h0, r0⟩ := trodAll_cons hA
  obtain ⟨v1, vs1, d1, ds1, p1, q1, rfl, rfl, rfl, h1, r1⟩ := trodAll_cons r0
  obtain ⟨v2, vs2, d2, ds2, p2, q2, rfl, rfl, rfl, h2, r2⟩ := trodAll_cons r1
  obtain ⟨rfl, rfl, rfl⟩ := trodAll_nil r2
  obtain rfl : args = #[v0, v1, v2] := by cases args; simp_all
  obtain ⟨rfl, rfl⟩ := trodVars_none hV
  obtain ⟨a0, rfl, rfl, rfl, w0⟩ := open_string Try.underlying9 (hval 0 9 v0 rfl rfl) h0
  obtain ⟨a1, rfl, rfl, rfl⟩ := open_bool Try.underlying4 (hval 1 4 v1 rfl rfl) h1
  obtain ⟨a2, rfl, rfl, rfl⟩ := open_bool Try.underlying4 (hval 2 4 v2 rfl rfl) h2
  clear hA0 hval0
  simp only [List.append_nil] at hW'
  refine (walk a0 a1 a2 w0 W).mono fun e W' ⟨he, bel⟩ => ?_
  subst he
  exact ⟨_, rfl, _, _, _, [], _, [], hW', trodAll_mk1 (shut_bool Try.underlying4 _), (trodAll_cons_mk (shut_string Try.underlying9 w0) (trodAll_cons_mk (shut_bool Try.underlying4 _) (trodAll_cons_mk (shut_bool Try.underlying4 _) trodAll_mk0))), rfl, bel.frame _, fun h => by cases h⟩

theorem over : Rows.fnUnescapeURIInvertsEscapingRow.holds Try.pinned (OpenSpec.ofChange Rows.fnUnescapeURIInvertsEscapingSpec) :=
  OpenClaim.holds_of_wide 4 Try.f4 rfl rfl rfl rfl rfl rfl rfl ⟨rfl, rfl, rfl, rfl, rfl⟩ rfl rfl rfl rfl rfl (by kernel_rfl) Try.func4 Closed4.closed
    (of_decide_eq_true (by kernel_rfl)) (by unfold Func.isWrapper; first | (rw [if_pos (by decide +kernel)]; kernel_rfl) | (rw [if_neg (by decide +kernel)]; exact ⟨rfl, rfl⟩))
    (fun os started H enc _ => lifted os started H enc)

/-- THE STATEMENT -/
theorem proved : Rows.FnUnescapeURIInvertsEscapingSaid :=
  over
end Go.Proofs.Qxb6603715a.fnUnescapeURIInvertsEscaping
namespace Go.Proofs.Qxb6603715a
theorem unescape_proved : Rows.FnUnescapeURIInvertsEscapingSaid := fnUnescapeURIInvertsEscaping.proved
end Go.Proofs.Qxb6603715a
