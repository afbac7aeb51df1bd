import Derived.Test.Qxb6603473aDoorWr
import Derived.WalkSmall
import Derived.Lib.SmallJoins
namespace Go.Proofs.Qxb6603473aDoor
open Go.RowKit

theorem bytes_ext {a b : ByteArray} (h : a.data.toList = b.data.toList) : a = b := by
  cases a; cases b
  simp only at h
  rw [Array.toList_inj.1 h]

/-- Does the package keep s as a value of the type t? -/
def keeps (t s : ByteArray) : Bool :=
  if (t.toList == [98, 105, 103, 105, 110, 116]) = true then wBig s else if (t.toList == [117, 117, 105, 100]) = true then wUuid s else true

/-- The two listed variables of strconv hold errors. -/
def Vars (w : World) : Prop := (∃ tp p, w.var? Tryd.prog "strconv.ErrSyntax" = some #[.iface tp p]) ∧ ∃ tq q, w.var? Tryd.prog "strconv.ErrRange" = some #[.iface tq q]

theorem gSyn : (Tryd.prog.globalNamed "strconv.ErrSyntax").isSome = true := by kernel_rfl
theorem gRng : (Tryd.prog.globalNamed "strconv.ErrRange").isSome = true := by kernel_rfl

theorem Vars.mono {w w' : World} (h : Vars w) {B : Nat} (hb : Below B w w') (hB : w.heap.size ≤ B) : Vars w' := by
  obtain ⟨⟨tp, p, h1⟩, tq, q, h2⟩ := h
  obtain ⟨g1, e1⟩ := Option.isSome_iff_exists.1 gSyn
  obtain ⟨g2, e2⟩ := Option.isSome_iff_exists.1 gRng
  exact ⟨⟨tp, p, Go.Joins.var_stays e1 h1 hb hB⟩, tq, q, Go.Joins.var_stays e2 h2 hb hB⟩

theorem writes_at (t s : ByteArray) (hs : s.size ≤ 1048576) (w : World) (hv : Vars w) : Calls Tryd.prog 16 #[.string t, .string s] w (WPost (keeps t s) w) := by
  obtain ⟨⟨tp, p, h1⟩, tq, q, h2⟩ := hv
  cases hb : (t.toList == [98, 105, 103, 105, 110, 116])
  · cases hu : (t.toList == [117, 117, 105, 100])
    · have e : keeps t s = true := by simp only [keeps, hb, hu]; rfl
      rw [e]
      exact writes_any t s hb hu w
    · have e : keeps t s = wUuid s := by simp only [keeps, hb, hu]; rfl
      obtain rfl : t = uuid := bytes_ext (by rw [← ByteArray.toList_eq]; exact eq_of_beq hu)
      rw [e]
      exact writes_uuid s w
  · have e : keeps t s = wBig s := by simp only [keeps, hb]; rfl
    obtain rfl : t = bigint := bytes_ext (by rw [← ByteArray.toList_eq]; exact eq_of_beq hb)
    rw [e]
    exact writes_big s hs tp tq p q w h1 h2

/-- The slice x of n strings reads as S. -/
def StrsAt (w : World) (x : Option Addr) (n : Nat) (S : Nat → ByteArray) : Prop :=
  n ≤ maxLen ∧ (0 < n → ∃ b off, x = some ⟨b, off, none⟩ ∧ ∀ k, k < n → w.cell? ⟨b, off + k, none⟩ = some (.string (S k)))

theorem StrsAt.mono {w w' : World} {x : Option Addr} {n : Nat} {S : Nat → ByteArray} (h : StrsAt w x n S) {B : Nat} (hb : Below B w w') (hB : w.heap.size ≤ B) : StrsAt w' x n S := by
  refine ⟨h.1, fun h0 => ?_⟩
  obtain ⟨b, off, rfl, hc⟩ := h.2 h0
  exact ⟨b, off, rfl, fun k hk => (hb.cell (p := ⟨b, _, none⟩) (by exact Nat.lt_of_lt_of_le (World.block_lt_of_cell? w _ (hc k hk)) hB)).trans (hc k hk)⟩

/-! The plain literal. -/

def bat (s : ByteArray) (i : Nat) : UInt8 := s.data.toList.getD i 0
theorem bat_int (s : ByteArray) (i : Nat) : byteAt s i = ((bat s i).toNat : Int) := rfl

def esc1 (c : UInt8) : List UInt8 := if c = 34 ∨ c = 92 then [92, c] else [c]
def escTo (s : ByteArray) : Nat → List UInt8
  | 0 => []
  | j + 1 => escTo s j ++ esc1 (bat s j)
theorem esc1_len (c : UInt8) : (esc1 c).length ≤ 2 := by unfold esc1; split <;> simp
theorem escTo_len (s : ByteArray) : ∀ j, (escTo s j).length ≤ 2 * j
  | 0 => by simp [escTo]
  | j + 1 => by
    have h1 := escTo_len s j
    have h2 := esc1_len (bat s j)
    simp only [escTo, List.length_append]
    omega

/-- An element in its quotes. -/
def elem (s : ByteArray) : List UInt8 := [34] ++ escTo s s.size ++ [34]

def comma (l : List UInt8) : List UInt8 := if 1 < l.length then [44] else []

/-- The literal of the first k strings, without its closing brace. -/
def body (t : ByteArray) (S : Nat → ByteArray) : Nat → List UInt8
  | 0 => [123]
  | k + 1 => if keeps t (S k) = true then body t S k ++ comma (body t S k) ++ elem (S k) else body t S k

theorem body_len (t : ByteArray) (S : Nat → ByteArray) (n : Nat) (hS : ∀ i, i < n → (S i).size ≤ 1048576) : ∀ k, k ≤ n → (body t S k).length ≤ 1 + 2097155 * k
  | 0, _ => by simp [body]
  | k + 1, hk => by
    have h1 := body_len t S n hS k (by omega)
    have h2 := escTo_len (S k) (S k).size
    have h3 := hS k (by omega)
    have h4 : (comma (body t S k)).length ≤ 1 := by unfold comma; split <;> simp
    unfold body
    split
    · simp only [elem, List.length_append, List.length_cons, List.length_nil]
      omega
    · omega

def lit (t : ByteArray) (S : Nat → ByteArray) (n : Nat) : List UInt8 := body t S n ++ [125]

/-! The builder. -/

/-- The builder that a call made at the world w0 holds l. -/
def BAt (w0 : World) (l : List UInt8) (w : World) : Prop :=
  Lib.BuilderAt 36 5 w0.heap.size w0.heap.size (.pointer (some ⟨w0.heap.size, 0, none⟩)) (Lib.byteCells l) w ∧ Below w0.heap.size w0 w

theorem BAt.mono {w0 w w' : World} {l : List UInt8} (h : BAt w0 l w) (hb : Below w.heap.size w w') : BAt w0 l w' := by
  obtain ⟨⟨h1, v, h2, ⟨h3, h4⟩, h5⟩, h6⟩ := h
  have lt : ∀ {g : Nat} {o : Obj}, w.heap[g]? = some o → g < w.heap.size := fun h => (Array.getElem?_eq_some_iff.1 h).1
  refine ⟨⟨h1, v, (hb.block _ (lt h2)).trans h2, ⟨h3, ?_⟩, h5⟩, h6.trans (hb.mono h6.size)⟩
  rcases h4 with h4 | ⟨g, cap, cur, e, hg, hc, r⟩
  · exact .inl h4
  · exact .inr ⟨g, cap, cur, e, hg, (hb.block _ (lt hc)).trans hc, r⟩

theorem BAt.below {w0 w : World} {l : List UInt8} (h : BAt w0 l w) : Below w0.heap.size w0 w := h.2

theorem wb (w0 w : World) (l : List UInt8) (c : Int) (c' : UInt8) (hc : c = (c'.toNat : Int)) (h : BAt w0 l w) (hl : l.length ≤ 1099511627776) :
    Calls Tryd.prog 15 #[.pointer (some ⟨w0.heap.size, 0, none⟩), .int .u8 c] w fun e w' => e = .returned .nilIface ∧ BAt w0 (l ++ [c']) w' := by
  refine (Tryd.WriteByte _ _ _ c w (.inr h.1) (by rw [Lib.byteCells_length]; omega) h.2.size).mono ?_
  rintro e w' ⟨rfl, h1, h2⟩
  refine ⟨rfl, ?_, h.2.trans h2⟩
  subst hc
  simpa [Lib.byteCells] using h1

theorem bgrow (w : World) (n : Nat) (hn : n ≤ 281474976710656) :
    Calls Tryd.prog 14 #[.pointer (some ⟨w.heap.size, 0, none⟩), .int .i64 n] (w.alloc (.cells #[.pointer none, .slice none 0 0] 36)) fun e w' => e = .returned (.tuple #[]) ∧ BAt w [] w' := by
  refine (Tryd.BGrow w.heap.size w.heap.size n _ (Nat.le_refl _) (heap_alloc_new w _) (by simp) hn).mono ?_
  rintro e w' ⟨rfl, h1, h2⟩
  exact ⟨rfl, by simpa [Lib.byteCells] using h1, ((Below.refl _ _).alloc (Nat.le_refl _) _).trans h2⟩

theorem blen (w0 w : World) (l : List UInt8) (h : BAt w0 l w) : Calls Tryd.prog 17 #[.pointer (some ⟨w0.heap.size, 0, none⟩)] w fun e w' => e = .returned (.int .i64 l.length) ∧ w' = w := by
  have := Tryd.BLen _ _ _ w (.inr h.1)
  rwa [Lib.byteCells_length] at this

theorem bstr (w0 w : World) (l : List UInt8) (h : BAt w0 l w) : Calls Tryd.prog 18 #[.pointer (some ⟨w0.heap.size, 0, none⟩)] w fun e w' => e = .returned (.string ⟨l.toArray⟩) ∧ Below w0.heap.size w0 w' := by
  refine (Tryd.BString _ _ l w (.inr h.1) h.2.size).mono ?_
  rintro e w' ⟨rfl, h1⟩
  exact ⟨rfl, h.2.trans h1⟩

def LPost (l : List UInt8) (w : World) (e : Ending) (w' : World) : Prop := e = .returned (.string ⟨l.toArray⟩) ∧ Below w.heap.size w w'

set_option maxHeartbeats 2000000 in
theorem literal_at (t : ByteArray) (x : Option Addr) (n cap : Nat) (S : Nat → ByteArray) (w : World) (h : StrsAt w x n S) (hn : n ≤ 131072) (hS : ∀ i, i < n → (S i).size ≤ 1048576) (hv : Vars w) :
    Calls Tryd.prog 11 #[.string t, .slice x n cap] w (LPost (lit t S n) w) := by
  have HC := hide h.2
  have HA := hide h
  have HS := hide hS
  have HL := hide (body_len t S n hS)
  have HV := hide hv
  clear h hS hv
  go_enter Tryd.func11, Tryd.ntmps11
  go_wp2
  go_loop [5, 14] (fun z i => ∃ k : Nat, k ≤ n ∧ i = .int .i64 k ∧ ∃ z' : Nat, z = .int .i64 z' ∧ z' ≤ 2 + 1048579 * k) (fun _ i => n - (intOf i).toNat)
  case atStart => exact ⟨0, Nat.zero_le _, rfl, 2, rfl, by omega⟩
  case round =>
    obtain ⟨k, hk, rfl, z, rfl, hz⟩ := hrel
    by_cases hlt : k < n
    · obtain ⟨b, off, rfl, hcc⟩ := HC.out (by omega)
      have c1 := hcc k hlt
      have hl := HS.out k hlt
      clear hcc
      go_wp2
      go_round
      case rel => exact ⟨k + 1, by omega, by go_num, z + (3 + (S k).size), by go_num, by omega⟩
      case measure => simp [intOf]; omega
    · obtain rfl : n = k := by omega
      have HG := hide (bgrow w z (by omega))
      go_wp2_with fail
      refine HG.out.mono ?_
      rintro e w1 ⟨rfl, M⟩
      have M0 := hide M
      clear M HG
      go_wp2_with fail
      refine (wb w w1 [] 123 123 rfl M0.out (by simp)).mono ?_
      rintro e w2 ⟨rfl, M⟩
      have M1 := hide M
      clear M M0
      go_wp2
      go_loopw [29] (fun i wr => ∃ k : Nat, k ≤ n ∧ i = .int .i64 k ∧ BAt w (body t S k) wr) (fun i _ => n - (intOf i).toNat)
      case atStart => exact ⟨0, Nat.zero_le _, rfl, M1.out⟩
      case round =>
        clear M1
        obtain ⟨k, hk, rfl, hM⟩ := hrel
        have hbl := HL.out k hk
        have hV := HV.out.mono hM.below (Nat.le_refl _)
        by_cases hlt : k < n
        · obtain ⟨b, off, rfl, hcc⟩ := HC.out (by omega)
          have c1 := (hM.below.cell (p := ⟨b, off + k, none⟩) (World.block_lt_of_cell? w _ (hcc k hlt))).trans (hcc k hlt)
          have hl := HS.out k hlt
          have HB := hide (show body t S (k + 1) = if keeps t (S k) = true then body t S k ++ comma (body t S k) ++ elem (S k) else body t S k from rfl)
          have HW := hide (writes_at t (S k) hl wr hV)
          have HM := hide hM
          clear hcc hV hM
          cases hkp : keeps t (S k) with
          | false =>
            go_wp2_with fail
            refine HW.out.mono ?_
            rintro e w3 ⟨rfl, hb3⟩
            rw [hkp]
            have M3 := hide (HM.out.mono hb3)
            clear hb3 HM HW
            go_wp2
            go_roundw
            case rel => exact ⟨k + 1, by omega, by go_num, by rw [HB.out, hkp]; exact M3.out⟩
            case measure => simp [intOf]; omega
          | true =>
            go_wp2_with fail
            refine HW.out.mono ?_
            rintro e w3 ⟨rfl, hb3⟩
            rw [hkp]
            have M3 := hide (HM.out.mono hb3)
            have HN := hide (blen w w3 _ M3.out)
            clear hb3 HM HW
            go_wp2_with fail
            refine HN.out.mono ?_
            rintro e w4 ⟨rfl, rfl⟩
            clear HN
            by_cases h1 : 1 < (body t S k).length
            · go_wp2_with fail
              refine (wb w _ _ 44 44 rfl M3.out (by omega)).mono ?_
              rintro e w5 ⟨rfl, M⟩
              have hpl : (body t S k ++ [44]).length ≤ 2 + 2097155 * k := by simp; omega
              have HPRE := hide (show body t S k ++ [44] = body t S k ++ comma (body t S k) by unfold comma; rw [if_pos h1])
              clear h1 hbl M3
              generalize body t S k ++ [44] = pre at hpl M HPRE
              have M5 := hide M
              clear M
              go_wp2_with fail
              refine (wb w _ pre 34 34 rfl M5.out (by omega)).mono ?_
              rintro e w6 ⟨rfl, M⟩
              have M6 := hide M
              clear M M5
              go_wp2
              go_loopw [11] (fun i wi => ∃ j : Nat, j ≤ (S k).size ∧ i = .int .i64 j ∧ BAt w (pre ++ [34] ++ escTo (S k) j) wi) (fun i _ => (S k).size - (intOf i).toNat)
              case atStart => exact ⟨0, Nat.zero_le _, rfl, by simpa [escTo] using M6.out⟩
              case round =>
                clear M6
                obtain ⟨j, hj, rfl, hM⟩ := hrel
                have hel := escTo_len (S k) j
                have hwl : (pre ++ [34] ++ escTo (S k) j).length = pre.length + 1 + (escTo (S k) j).length := by simp; omega
                by_cases hjl : j < (S k).size
                · have hix := index_at (S k) j hjl .i64
                  have HE := hide (show escTo (S k) (j + 1) = escTo (S k) j ++ esc1 (bat (S k) j) from rfl)
                  have HI := hide (bat_int (S k) j)
                  have HM := hide hM
                  clear hM
                  generalize byteAt (S k) j = c at hix HI
                  have HWL := hide hwl
                  generalize hP : pre ++ [34] ++ escTo (S k) j = P at HM HWL
                  have HP := hide hP
                  have hPl : P.length ≤ 1099511627776 - 4 := by rw [HWL.out]; omega
                  clear hP hwl hel
                  by_cases h34 : c = 34
                  · subst h34
                    have HX := hide (show esc1 (bat (S k) j) = [92, bat (S k) j] from by
                      have e : bat (S k) j = 34 := UInt8.toNat_inj.1 (by have := HI.out; show _ = 34; omega)
                      rw [e]; rfl)
                    go_wp2_with fail
                    refine (wb w _ P 92 92 rfl HM.out (by omega)).mono ?_
                    rintro e w7 ⟨rfl, M⟩
                    have M7 := hide M
                    clear M HM
                    go_wp2_with fail
                    refine (wb w _ (P ++ [92]) 34 (bat (S k) j) HI.out M7.out (by simp; omega)).mono ?_
                    rintro e w8 ⟨rfl, M⟩
                    have M8 := hide M
                    clear M M7
                    go_wp2
                    go_roundw
                    case rel => exact ⟨j + 1, by omega, by go_num, by rw [HE.out, HX.out, ← List.append_assoc, HP.out]; simpa using M8.out⟩
                    case measure => simp [intOf]; omega
                  · by_cases h92 : c = 92
                    · subst h92
                      have HX := hide (show esc1 (bat (S k) j) = [92, bat (S k) j] from by
                        have e : bat (S k) j = 92 := UInt8.toNat_inj.1 (by have := HI.out; show _ = 92; omega)
                        rw [e]; rfl)
                      go_wp2_with fail
                      refine (wb w _ P 92 92 rfl HM.out (by omega)).mono ?_
                      rintro e w7 ⟨rfl, M⟩
                      have M7 := hide M
                      clear M HM
                      go_wp2_with fail
                      refine (wb w _ (P ++ [92]) 92 (bat (S k) j) HI.out M7.out (by simp; omega)).mono ?_
                      rintro e w8 ⟨rfl, M⟩
                      have M8 := hide M
                      clear M M7
                      go_wp2
                      go_roundw
                      case rel => exact ⟨j + 1, by omega, by go_num, by rw [HE.out, HX.out, ← List.append_assoc, HP.out]; simpa using M8.out⟩
                      case measure => simp [intOf]; omega
                    · have HX := hide (show esc1 (bat (S k) j) = [bat (S k) j] from by
                        unfold esc1
                        rw [if_neg]
                        rintro (e | e)
                        · exact h34 (by rw [HI.out, e]; rfl)
                        · exact h92 (by rw [HI.out, e]; rfl))
                      replace h34 : (c == 34) = false := beq_eq_false_iff_ne.2 h34
                      replace h92 : (c == 92) = false := beq_eq_false_iff_ne.2 h92
                      go_wp2_with fail
                      refine (wb w _ P c (bat (S k) j) HI.out HM.out (by omega)).mono ?_
                      rintro e w7 ⟨rfl, M⟩
                      have M7 := hide M
                      clear M HM
                      go_wp2
                      go_roundw
                      case rel => exact ⟨j + 1, by omega, by go_num, by rw [HE.out, HX.out, ← List.append_assoc, HP.out]; exact M7.out⟩
                      case measure => simp [intOf]; omega
                · obtain rfl : (S k).size = j := by omega
                  have HM := hide hM
                  clear hM
                  go_wp2_with fail
                  refine (wb w _ _ 34 34 rfl HM.out (by rw [hwl]; omega)).mono ?_
                  rintro e w7 ⟨rfl, M⟩
                  have M7 := hide M
                  clear M HM
                  go_wp2
                  go_roundw
                  case rel => exact ⟨k + 1, by omega, by go_num, by rw [HB.out, if_pos hkp, ← HPRE.out]; simpa [elem] using M7.out⟩
                  case measure => simp [intOf]; omega
            · have hpl : (body t S k).length ≤ 2 + 2097155 * k := by omega
              go_wp2_with fail
              have HPRE := hide (show body t S k = body t S k ++ comma (body t S k) by unfold comma; rw [if_neg h1]; simp)
              have M5 := hide M3.out
              clear M3
              obtain ⟨pre, HPE⟩ : ∃ pre, Hid (pre = body t S k) := ⟨_, rfl⟩
              rw [← HPE.out] at h1 hbl hpl M5
              replace HPRE := hide (HPE.out.trans HPRE.out)
              refine (wb w _ pre 34 34 rfl M5.out (by omega)).mono ?_
              rintro e w6 ⟨rfl, M⟩
              have M6 := hide M
              clear M M5
              go_wp2
              go_loopw [11] (fun i wi => ∃ j : Nat, j ≤ (S k).size ∧ i = .int .i64 j ∧ BAt w (pre ++ [34] ++ escTo (S k) j) wi) (fun i _ => (S k).size - (intOf i).toNat)
              case atStart => exact ⟨0, Nat.zero_le _, rfl, by simpa [escTo] using M6.out⟩
              case round =>
                clear M6
                obtain ⟨j, hj, rfl, hM⟩ := hrel
                have hel := escTo_len (S k) j
                have hwl : (pre ++ [34] ++ escTo (S k) j).length = pre.length + 1 + (escTo (S k) j).length := by simp; omega
                by_cases hjl : j < (S k).size
                · have hix := index_at (S k) j hjl .i64
                  have HE := hide (show escTo (S k) (j + 1) = escTo (S k) j ++ esc1 (bat (S k) j) from rfl)
                  have HI := hide (bat_int (S k) j)
                  have HM := hide hM
                  clear hM
                  generalize byteAt (S k) j = c at hix HI
                  have HWL := hide hwl
                  generalize hP : pre ++ [34] ++ escTo (S k) j = P at HM HWL
                  have HP := hide hP
                  have hPl : P.length ≤ 1099511627776 - 4 := by rw [HWL.out]; omega
                  clear hP hwl hel
                  by_cases h34 : c = 34
                  · subst h34
                    have HX := hide (show esc1 (bat (S k) j) = [92, bat (S k) j] from by
                      have e : bat (S k) j = 34 := UInt8.toNat_inj.1 (by have := HI.out; show _ = 34; omega)
                      rw [e]; rfl)
                    go_wp2_with fail
                    refine (wb w _ P 92 92 rfl HM.out (by omega)).mono ?_
                    rintro e w7 ⟨rfl, M⟩
                    have M7 := hide M
                    clear M HM
                    go_wp2_with fail
                    refine (wb w _ (P ++ [92]) 34 (bat (S k) j) HI.out M7.out (by simp; omega)).mono ?_
                    rintro e w8 ⟨rfl, M⟩
                    have M8 := hide M
                    clear M M7
                    go_wp2
                    go_roundw
                    case rel => exact ⟨j + 1, by omega, by go_num, by rw [HE.out, HX.out, ← List.append_assoc, HP.out]; simpa using M8.out⟩
                    case measure => simp [intOf]; omega
                  · by_cases h92 : c = 92
                    · subst h92
                      have HX := hide (show esc1 (bat (S k) j) = [92, bat (S k) j] from by
                        have e : bat (S k) j = 92 := UInt8.toNat_inj.1 (by have := HI.out; show _ = 92; omega)
                        rw [e]; rfl)
                      go_wp2_with fail
                      refine (wb w _ P 92 92 rfl HM.out (by omega)).mono ?_
                      rintro e w7 ⟨rfl, M⟩
                      have M7 := hide M
                      clear M HM
                      go_wp2_with fail
                      refine (wb w _ (P ++ [92]) 92 (bat (S k) j) HI.out M7.out (by simp; omega)).mono ?_
                      rintro e w8 ⟨rfl, M⟩
                      have M8 := hide M
                      clear M M7
                      go_wp2
                      go_roundw
                      case rel => exact ⟨j + 1, by omega, by go_num, by rw [HE.out, HX.out, ← List.append_assoc, HP.out]; simpa using M8.out⟩
                      case measure => simp [intOf]; omega
                    · have HX := hide (show esc1 (bat (S k) j) = [bat (S k) j] from by
                        unfold esc1
                        rw [if_neg]
                        rintro (e | e)
                        · exact h34 (by rw [HI.out, e]; rfl)
                        · exact h92 (by rw [HI.out, e]; rfl))
                      replace h34 : (c == 34) = false := beq_eq_false_iff_ne.2 h34
                      replace h92 : (c == 92) = false := beq_eq_false_iff_ne.2 h92
                      go_wp2_with fail
                      refine (wb w _ P c (bat (S k) j) HI.out HM.out (by omega)).mono ?_
                      rintro e w7 ⟨rfl, M⟩
                      have M7 := hide M
                      clear M HM
                      go_wp2
                      go_roundw
                      case rel => exact ⟨j + 1, by omega, by go_num, by rw [HE.out, HX.out, ← List.append_assoc, HP.out]; exact M7.out⟩
                      case measure => simp [intOf]; omega
                · obtain rfl : (S k).size = j := by omega
                  have HM := hide hM
                  clear hM
                  go_wp2_with fail
                  refine (wb w _ _ 34 34 rfl HM.out (by rw [hwl]; omega)).mono ?_
                  rintro e w7 ⟨rfl, M⟩
                  have M7 := hide M
                  clear M HM
                  go_wp2
                  go_roundw
                  case rel => exact ⟨k + 1, by omega, by go_num, by rw [HB.out, if_pos hkp, ← HPRE.out]; simpa [elem] using M7.out⟩
                  case measure => simp [intOf]; omega
        · obtain rfl : n = k := by omega
          have HM := hide hM
          clear hM hV
          go_wp2_with fail
          refine (wb w wr _ 125 125 rfl HM.out (by omega)).mono ?_
          rintro e w3 ⟨rfl, M⟩
          have M3 := hide M
          clear M HM
          go_wp2_with fail
          refine (bstr w w3 _ M3.out).mono ?_
          rintro e w4 ⟨rfl, hb⟩
          have HB := hide hb
          clear hb M3
          go_wp2
          go_ret
          exact ⟨rfl, HB.out⟩
end Go.Proofs.Qxb6603473aDoor
