import Derived.Test.Qxb6603473aDoorShelf
import Derived.WalkKit
import Derived.WalkSpells
import Derived.WalkLawsBesides
import Derived.OwnWalk
import Derived.Below
import Derived.Deep.CutBlock
import Derived.Deep.DeepCutAuto
import Derived.Deep.Light
namespace Go.Proofs.Qxb6603473aDoor
open Go.RowKit

theorem hide {p : Prop} (h : p) : Hid p := h

/-- The i-th byte of s. -/
def byteAt (s : ByteArray) (i : Nat) : Int := ((s.data.toList.getD i 0).toNat : Int)

theorem byteAt_get (s : ByteArray) (i : Nat) (h : i < s.size) : ((s[i]'h).toNat : Int) = byteAt s i := by
  have h' : i < s.data.toList.length := by rw [Array.length_toList]; exact h
  unfold byteAt
  rw [List.getD, List.getElem?_eq_getElem h']
  rfl
theorem byteAt_lt (s : ByteArray) (i : Nat) : 0 ≤ byteAt s i ∧ byteAt s i < 256 := by
  unfold byteAt
  have := (s.data.toList.getD i 0).toNat_lt
  omega
theorem index_at (s : ByteArray) (i : Nat) (h : i < s.size) (k : IntKind) (w : World) : (Instr.index 9 (.string s) (.int k (i : Int))).run Tryd.prog w = .ok (.int .u8 (byteAt s i)) w := by
  rw [run_index_string _ _ _ _ _ Tryd.underlying9, dif_pos (by omega), ← byteAt_get s i h]
  rfl

theorem trim_ne {l : List UInt8} {v : Int} (h : parses l = some v) : Lib.trimPrefix l [45] ≠ [] := by
  cases l with
  | nil => simp [parses, Lib.parseIntB] at h
  | cons c r =>
    unfold Lib.trimPrefix Lib.hasPrefix
    split
    · rename_i hp
      intro e
      simp at e
      subst e
      simp at hp
      subst hp
      simp [parses, Lib.parseIntB, Lib.parseUintB] at h
    · simp

/-- The first byte behind a minus. -/
def lead (s : ByteArray) : Int := byteAt ⟨(Lib.trimPrefix s.data.toList [45]).toArray⟩ 0

/-- Does PostgreSQL write s as a bigint? -/
def wBig (s : ByteArray) : Bool := (parses s.data.toList).isSome && (s.toList == [48] || decide (48 < lead s))

def WPost (b : Bool) (w : World) (e : Ending) (w' : World) : Prop := e = .returned (.bool b) ∧ Below w.heap.size w w'

def bigint : ByteArray := ⟨#[98, 105, 103, 105, 110, 116]⟩
def uuid : ByteArray := ⟨#[117, 117, 105, 100]⟩

set_option maxHeartbeats 1000000 in
theorem writes_big (s : ByteArray) (hs : s.size ≤ 1048576) (tp tq : TypeId) (p q : Value) (w : World)
    (h1 : w.var? Tryd.prog "strconv.ErrSyntax" = some #[.iface tp p]) (h2 : w.var? Tryd.prog "strconv.ErrRange" = some #[.iface tq q]) :
    Calls Tryd.prog 16 #[.string bigint, .string s] w (WPost (wBig s) w) := by
  have HP := hide (Tryd.ParseInt s (by omega) tp tq p q w h1 h2)
  have HT := hide (fun w => Tryd.Trim s ⟨#[45]⟩ w)
  clear h1 h2
  unfold bigint
  go_enter Tryd.func16, Tryd.ntmps16
  go_wp2_with fail
  refine HP.out.mono ?_
  rintro e w1 ⟨v, ev, rfl, hn, hy, hb⟩
  cases hp : parses s.data.toList with
  | none =>
    obtain ⟨N, rfl⟩ := hn hp
    have HB := hide hb
    clear hn hy hb
    go_wp2
    go_ret
    exact ⟨by simp [wBig, hp], HB.out⟩
  | some v' =>
    obtain rfl := hy v' hp
    have HB := hide hb
    have hne := trim_ne hp
    clear hn hy hb
    cases h0 : (s.toList == [48])
    · go_wp2_with fail
      refine (HT.out _).mono ?_
      rintro e w2 ⟨rfl, rfl⟩
      have hx := index_at ⟨(Lib.trimPrefix s.data.toList [45]).toArray⟩ 0 (by rw [ByteArray.size]; simp; exact List.length_pos_iff.2 hne) .i64
      have hl : byteAt ⟨(Lib.trimPrefix s.data.toList [45]).toArray⟩ 0 = lead s := rfl
      rw [hl] at hx
      replace hx := fun w => show (Instr.index 9 (.string ⟨(Lib.trimPrefix s.data.toList [45]).toArray⟩) (.int .i64 0)).run Tryd.prog w = _ from hx w
      clear hne hl
      generalize (⟨(Lib.trimPrefix s.data.toList [45]).toArray⟩ : ByteArray) = u at hx
      go_wp2
      go_ret
      exact ⟨by simp [wBig, hp, h0], HB.out⟩
    · go_wp2
      go_ret
      exact ⟨by simp [wBig, hp, h0], HB.out⟩

/-- Is the i-th byte of s as a uuid has it? -/
def uOk (s : ByteArray) (i : Nat) : Bool :=
  if i = 8 ∨ i = 13 ∨ i = 18 ∨ i = 23 then byteAt s i == 45 else (decide (48 ≤ byteAt s i) && decide (byteAt s i ≤ 57)) || (decide (97 ≤ byteAt s i) && decide (byteAt s i ≤ 102))

def uUpto (s : ByteArray) : Nat → Bool
  | 0 => true
  | k + 1 => uUpto s k && uOk s k
theorem uUpto_false {s : ByteArray} {k : Nat} (h : uOk s k = false) : ∀ n, k < n → uUpto s n = false
  | 0, hk => by omega
  | n + 1, hk => by
    unfold uUpto
    by_cases e : k = n
    · subst e; simp [h]
    · simp [uUpto_false h n (by omega)]

def wUuid (s : ByteArray) : Bool := decide (s.size = 36) && uUpto s 36

set_option maxHeartbeats 1000000 in
theorem writes_uuid (s : ByteArray) (w : World) : Calls Tryd.prog 16 #[.string uuid, .string s] w (WPost (wUuid s) w) := by
  unfold uuid
  by_cases h36 : s.size = 36
  · go_enter Tryd.func16, Tryd.ntmps16
    go_wp2
    go_loop [7] (fun i => ∃ k : Nat, k ≤ 36 ∧ i = .int .i64 k ∧ uUpto s k = true) (fun i => 36 - (intOf i).toNat)
    case atStart => exact ⟨0, Nat.zero_le _, rfl, rfl⟩
    case round =>
      obtain ⟨k, hk, rfl, hup⟩ := hrel
      have HU := hide hup
      clear hup
      by_cases hlt : k < 36
      · have hix := index_at s k (by omega) .i64
        obtain ⟨hb0, hb1⟩ := byteAt_lt s k
        have HK := hide (show uOk s k = (if k = 8 ∨ k = 13 ∨ k = 18 ∨ k = 23 then byteAt s k == 45 else (decide (48 ≤ byteAt s k) && decide (byteAt s k ≤ 57)) || (decide (97 ≤ byteAt s k) && decide (byteAt s k ≤ 102))) from rfl)
        generalize byteAt s k = c at hix hb0 hb1 HK
        by_cases hsep : k = 8 ∨ k = 13 ∨ k = 18 ∨ k = 23
        · by_cases hc : c = 45
          · have hok : uOk s k = true := by rw [HK.out, if_pos hsep, hc]; rfl
            have HO := hide hok
            subst hc
            clear HK hok
            rcases hsep with rfl | rfl | rfl | rfl
            · replace hix := fun w => show (Instr.index 9 (.string s) (.int .i64 8)).run Tryd.prog w = .ok (.int .u8 45) w from hix w
              go_wp2
              go_round
              case rel => exact ⟨9, by omega, rfl, by unfold uUpto; rw [HU.out, HO.out]; rfl⟩
              case measure => simp [intOf]
            · replace hix := fun w => show (Instr.index 9 (.string s) (.int .i64 13)).run Tryd.prog w = .ok (.int .u8 45) w from hix w
              go_wp2
              go_round
              case rel => exact ⟨14, by omega, rfl, by unfold uUpto; rw [HU.out, HO.out]; rfl⟩
              case measure => simp [intOf]
            · replace hix := fun w => show (Instr.index 9 (.string s) (.int .i64 18)).run Tryd.prog w = .ok (.int .u8 45) w from hix w
              go_wp2
              go_round
              case rel => exact ⟨19, by omega, rfl, by unfold uUpto; rw [HU.out, HO.out]; rfl⟩
              case measure => simp [intOf]
            · replace hix := fun w => show (Instr.index 9 (.string s) (.int .i64 23)).run Tryd.prog w = .ok (.int .u8 45) w from hix w
              go_wp2
              go_round
              case rel => exact ⟨24, by omega, rfl, by unfold uUpto; rw [HU.out, HO.out]; rfl⟩
              case measure => simp [intOf]
          · have hok : uOk s k = false := by rw [HK.out, if_pos hsep]; simpa using hc
            have HO := hide hok
            clear HK hok
            rcases hsep with rfl | rfl | rfl | rfl
            · replace hix := fun w => show (Instr.index 9 (.string s) (.int .i64 8)).run Tryd.prog w = .ok (.int .u8 c) w from hix w
              go_wp2
              go_ret
              exact ⟨by simp [wUuid, h36, uUpto_false HO.out 36 (by omega)], Below.refl _ _⟩
            · replace hix := fun w => show (Instr.index 9 (.string s) (.int .i64 13)).run Tryd.prog w = .ok (.int .u8 c) w from hix w
              go_wp2
              go_ret
              exact ⟨by simp [wUuid, h36, uUpto_false HO.out 36 (by omega)], Below.refl _ _⟩
            · replace hix := fun w => show (Instr.index 9 (.string s) (.int .i64 18)).run Tryd.prog w = .ok (.int .u8 c) w from hix w
              go_wp2
              go_ret
              exact ⟨by simp [wUuid, h36, uUpto_false HO.out 36 (by omega)], Below.refl _ _⟩
            · replace hix := fun w => show (Instr.index 9 (.string s) (.int .i64 23)).run Tryd.prog w = .ok (.int .u8 c) w from hix w
              go_wp2
              go_ret
              exact ⟨by simp [wUuid, h36, uUpto_false HO.out 36 (by omega)], Below.refl _ _⟩
        · have h8 : ¬ k = 8 := fun e => hsep (.inl e)
          have h13 : ¬ k = 13 := fun e => hsep (.inr (.inl e))
          have h18 : ¬ k = 18 := fun e => hsep (.inr (.inr (.inl e)))
          have h23 : ¬ k = 23 := fun e => hsep (.inr (.inr (.inr e)))
          replace h8 : ((k : Int) == 8) = false := beq_eq_false_iff_ne.2 (by omega)
          replace h13 : ((k : Int) == 13) = false := beq_eq_false_iff_ne.2 (by omega)
          replace h18 : ((k : Int) == 18) = false := beq_eq_false_iff_ne.2 (by omega)
          replace h23 : ((k : Int) == 23) = false := beq_eq_false_iff_ne.2 (by omega)
          by_cases hok : uOk s k = true
          · have hc : (48 ≤ c ∧ c ≤ 57) ∨ (97 ≤ c ∧ c ≤ 102) := by rw [HK.out, if_neg hsep] at hok; simpa using hok
            have HO := hide hok
            clear HK hok hsep
            rcases hc with ⟨c1, c2⟩ | ⟨c1, c2⟩
            all_goals
              go_wp2
              go_round
              case rel => exact ⟨k + 1, by omega, by go_num, by unfold uUpto; rw [HU.out, HO.out]; rfl⟩
              case measure => simp [intOf]; omega
          · have hc : c < 48 ∨ (57 < c ∧ c < 97) ∨ 102 < c := by
              rw [HK.out, if_neg hsep] at hok
              simp at hok
              omega
            have hok' : uOk s k = false := by simpa using hok
            have HO := hide hok'
            clear HK hok hok' hsep
            rcases hc with c1 | ⟨c1, c2⟩ | c1
            all_goals
              go_wp2
              go_ret
              exact ⟨by simp [wUuid, h36, uUpto_false HO.out 36 hlt], Below.refl _ _⟩
      · obtain rfl : k = 36 := by omega
        go_wp2
        go_ret
        exact ⟨by simp [wUuid, h36, HU.out], Below.refl _ _⟩
  · go_enter Tryd.func16, Tryd.ntmps16
    go_wp2
    go_ret
    exact ⟨by simp [wUuid, h36], Below.refl _ _⟩

theorem writes_any (t s : ByteArray) (hb : (t.toList == [98, 105, 103, 105, 110, 116]) = false) (hu : (t.toList == [117, 117, 105, 100]) = false) (w : World) : Calls Tryd.prog 16 #[.string t, .string s] w (WPost true w) := by
  go_enter Tryd.func16, Tryd.ntmps16
  go_wp2
  go_ret
  exact ⟨rfl, Below.refl _ _⟩
end Go.Proofs.Qxb6603473aDoor
