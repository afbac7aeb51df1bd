import Derived.Test.Qxb6603473aDepth
import Derived.Deep.RegionWith
namespace Go.Proofs.Qxb6603473a
namespace Menu
open Go.RowKit

/-- The slice v lists, in wt, pointers to the menus of l. -/
def ListAt (wt : World) (MB : Nat → Nat) (v : Value) (l : List Nat) : Prop := ∃ g cap, v = .slice (some ⟨g, 0, none⟩) l.length cap ∧ g < wt.heap.size ∧ ∀ q, q < l.length → wt.cell? ⟨g, q, none⟩ = some (.pointer (some ⟨MB (l.getD q 0), 0, none⟩))

/-- The menus as they lie. -/
structure Forest (wt : World) (F : Nat → Entry) (n : Nat) (MB : Nat → Nat) (CV : Nat → Value) : Prop where
  menu : ∀ i, i < n → menuB (F i) = true → wt.heap[MB i]? = some (menuObj (F i) (CV i))
  kids : ∀ i, i < n → menuB (F i) = true → ListAt wt MB (CV i) (upTo (kidB F i) n)

theorem listAt_of {wt : World} {MB : Nat → Nat} {v : Value} {l : List Nat} {base : Nat} (h : wt.ownsRow base 47 1 v l.length (ptrs (l.map MB))) (hv : v ≠ .slice none 0 0) : ListAt wt MB v l := by
  rcases h.2 with ⟨h0, _⟩ | ⟨g, cap, cur, rfl, _, hg, _⟩
  · exact absurd h0 hv
  · refine ⟨g, cap, rfl, (Array.getElem?_eq_some_iff.1 hg).1, fun q hq => ?_⟩
    have := h.cells (g := g) rfl q _ (ptrs_get (l.map MB) (by simpa using hq))
    rw [Go.WideShapes.add_plain, Nat.zero_add] at this
    rw [this]
    simp [List.getD, hq]

theorem Forest.of {w wt : World} {F : Nat → Entry} {n : Nat} {MB : Nat → Nat} {CV : Nat → Value} {vr : Value} {D : DataW Unit} (h : T2 w F n MB CV (kidsTo F n) vr (rootsTo F n) D wt) : Forest wt F n MB CV ∧ ListAt wt MB vr (upTo (rootB F) n) :=
  ⟨⟨h.menu, fun i hi hm => listAt_of (h.kids i hi hm).1 (h.kids i hi hm).2⟩, listAt_of h.roots.1 h.roots.2⟩

def True14 (w : World) (e : Ending) (w' : World) : Prop := e = .returned (.bool true) ∧ Below w.heap.size w w'

/-- What a call of the matcher answers, at this fuel. -/
def MatchSaid (wt : World) (F : Nat → Entry) (n : Nat) (MB : Nat → Nat) (xh : Option Addr) (f d : Nat) : Prop :=
  ∀ (v : Value) (root : Bool) (pc : ByteArray) (p : Nat → Bool) (w : World), Below wt.heap.size wt w → ListAt wt MB v (upTo p n) →
    (∀ i, i < n → p i = (menuB (F i) && (if root = true then (F i).parent.toList.isEmpty else !(F i).parent.toList.isEmpty && ((F i).parent.toList == pc.toList)))) → (∀ i, i < n → p i = true → Dep F n (d + 1) i) →
    Calls Try.prog 14 #[v, .slice xh n n, .string pc, .bool root, .int .i64 (f : Nat)] w (True14 w)

set_option maxHeartbeats 4000000 in
set_option maxRecDepth 100000 in
theorem match_step (wt : World) (F : Nat → Entry) (n : Nat) (MB : Nat → Nat) (CV : Nat → Value) (xh : Option Addr) (hF : Forest wt F n MB CV) (hE : Entries wt xh n F) (hn : n ≤ 65536) (hdc : ∀ i j, i < n → j < n → i ≠ j → (F i).code ≠ (F j).code)
    (f d : Nat) (hfd : f + 1 + d = n + 1) (ih : d + 1 ≤ n → MatchSaid wt F n MB xh f (d + 1)) : MatchSaid wt F n MB xh (f + 1) d := by
  intro v root pc p w hw hv hp hdep
  obtain ⟨g, cv, rfl, hgw, hcell⟩ := hv
  have hq := fun w a l c => Lib.run_eql_slice_nil (P := Try.prog) w 35 47 a l c 0 0 Try.underlying35
  have hle := upTo_le p n
  have hwf : IntKind.i64.wrap (f : Int) = (f : Int) := by rw [IntKind.wrap_i64]; omega
  have HF := hide hF
  have HE := hide hE
  have HIH := hide ih
  have HP := hide hp
  have HDP := hide hdep
  have HCL := hide hcell
  have HD := hide hdc
  clear hF hE ih hp hdep hcell hdc
  generalize hLN : (upTo p n).length = ln at hle HCL
  have HLN := hide hLN
  clear hLN
  go_enter Try.func14, Try.ntmps14
  go_wp2_with fail
  go_loopw [11, 12] (fun kv i wr => ∃ t : Nat, t ≤ n ∧ i = .int .i64 t ∧ kv = .int .i64 ((upTo p t).length : Nat) ∧ Below wt.heap.size wt wr ∧ Below w.heap.size w wr) (fun _ i _ => n - (intOf i).toNat)
  case atStart => exact ⟨0, Nat.zero_le _, rfl, rfl, hw, Below.refl _ _⟩
  case round =>
    clear hq
    obtain ⟨t, ht, rfl, rfl, hbt, hbw⟩ := hrel
    by_cases hlt : t < n
    · obtain ⟨b, off, rfl, hcc⟩ := HE.out.2 (by omega)
      have hent := (hcc t hlt).1.mono hbt (hcc t hlt).1.lt
      obtain ⟨h0, h1, h2, h3, h4, h5, h6, h7⟩ := hent
      have hpt := HP.out t hlt
      have hup := upTo_succ p t
      have hkt := upTo_le p t
      have hwz := hbw.size
      have htz := hbt.size
      clear hcc
      by_cases hsel : p t = true
      · -- a menu that is asked for
        obtain ⟨hk1, hk2⟩ := upTo_at p hlt hsel
        rw [hsel] at hpt hup
        have hmen : menuB (F t) = true := by
          cases hm : menuB (F t) with
          | true => rfl
          | false => rw [hm] at hpt; simp at hpt
        rw [HLN.out] at hk1
        have c1 := (hbt.cell (p := ⟨g, (upTo p t).length, none⟩) hgw).trans (HCL.out _ hk1)
        rw [hk2] at c1
        obtain ⟨m0, m1, m2, m3, _⟩ := menu_cell (HF.out.menu t hlt hmen)
        have hMB := (Array.getElem?_eq_some_iff.1 (HF.out.menu t hlt hmen)).1
        have n0 := (hbt.cell (p := ⟨MB t, 0, none⟩) hMB).trans m0
        have n1 := (hbt.cell (p := ⟨MB t, 1, none⟩) hMB).trans m1
        have n2 := (hbt.cell (p := ⟨MB t, 2, none⟩) hMB).trans m2
        have n3 := (hbt.cell (p := ⟨MB t, 3, none⟩) hMB).trans m3
        have hMr : MB t < wr.heap.size := Nat.lt_of_lt_of_le hMB htz
        have hgr : g < wr.heap.size := Nat.lt_of_lt_of_le hgw htz
        have hdt := HDP.out t hlt hsel
        have HCALL : Hid (∀ W, Below wt.heap.size wt W → Calls Try.prog 14 #[CV t, .slice (some ⟨b, off, none⟩) n n, .string (F t).code, .bool false, .int .i64 (f : Nat)] W (True14 W)) := fun W hW =>
          HIH.out (Dep.le HD.out hdt) (CV t) false (F t).code (kidB F t) W hW (HF.out.kids t hlt hmen) (fun i hi => by simp [kidB, Bool.and_assoc]) (fun i hi hk => ⟨hi, t, hdt, hk⟩)
        simp only [if_true] at hup
        have HUP := hide (congrArg List.length hup)
        clear hup hsel m0 m1 m2 m3 hdt
        unfold menuB at hpt hmen
        generalize hf : F t = fe at h0 h1 h2 h3 h4 h5 h6 h7 hpt n0 n1 n2 hmen HCALL
        clear hf
        obtain ⟨f0, f1, f2, f3, f4, f5, f6, f7⟩ := fe
        simp only at h0 h1 h2 h3 h4 h5 h6 h7 hpt n0 n1 n2 hmen HCALL
        rw [hmen] at hpt
        generalize CV t = cvt at n3 HCALL
        generalize MB t = mbt at c1 n0 n1 n2 n3 hMr
        generalize hku : (upTo p t).length = kt at *
        have HKU := hide hku
        clear hku hMB
        cases root with
        | true =>
            have hpe : f5.toList.isEmpty = true := by simpa using hpt.symm
            clear hpt
            go_upto_region 15 with fail
            go_quiet (fail)
            have hq1 : Below wt.heap.size wt ((wr.alloc (.cells #[.string f0, .string f1, .string f2, .string f3, .string f4, .string f5, .int .i64 f6, .string f7] 33)).drewN nq) := below_drewN (hbt.alloc htz _) _
            have hq2 : Below w.heap.size w ((wr.alloc (.cells #[.string f0, .string f1, .string f2, .string f3, .string f4, .string f5, .int .i64 f6, .string f7] 33)).drewN nq) := below_drewN (hbw.alloc hwz _) _
            have hq3 : ((wr.alloc (.cells #[.string f0, .string f1, .string f2, .string f3, .string f4, .string f5, .int .i64 f6, .string f7] 33)).drewN nq).cell? ⟨mbt, 3, none⟩ = some cvt := (World.cell?_alloc_past _ _ _ hMr).trans n3
            have hq4 : ((wr.alloc (.cells #[.string f0, .string f1, .string f2, .string f3, .string f4, .string f5, .int .i64 f6, .string f7] 33)).drewN nq).cell? ⟨wr.heap.size, 0, none⟩ = some (.string f0) := by
              show (wr.alloc _).cell? _ = _
              rw [World.cell?_alloc_at _ _ _ _ rfl]; rfl
            clear n0 n1 n2 n3 c1 h0 h1 h2 h3 h4 h5 h6 h7
            generalize ((wr.alloc (.cells #[.string f0, .string f1, .string f2, .string f3, .string f4, .string f5, .int .i64 f6, .string f7] 33)).drewN nq) = wq at hq1 hq2 hq3 hq4 ⊢
            go_upto_region 17 with fail
            go_cut [94] (fun v9 w9 => v9 = .bool false ∧ Below wt.heap.size wt w9 ∧ Below w.heap.size w w9)
            case first =>
              go_region_with (go_at_call 14; refine (HCALL.out _ ?_).mono ?_; exact hq1.drew; rintro e w9 ⟨rfl, hb9⟩)
              all_goals
                go_wp2_with fail
                go_meet
                exact ⟨rfl, hq1.drew.trans (hb9.mono hq1.drew.size), hq2.drew.trans (hb9.mono hq2.drew.size)⟩
            case rest =>
              obtain ⟨rfl, hb1, hb2⟩ := hcut
              go_wp2_with fail
              go_roundw
              case rel => exact ⟨t + 1, by omega, by go_num, by rw [HUP.out, List.length_append, HKU.out]; rfl, hb1, hb2⟩
              case measure => simp [intOf]; omega
        | false =>
            have hpe : f5.toList.isEmpty = false := by
              cases hx : f5.toList.isEmpty with
              | false => rfl
              | true => rw [hx] at hpt; simp at hpt
            have hpp : (f5.toList == pc.toList) = true := by rw [hpe] at hpt; simpa using hpt.symm
            clear hpt
            go_upto_region 15 with fail
            go_quiet (fail)
            have hq1 : Below wt.heap.size wt ((wr.alloc (.cells #[.string f0, .string f1, .string f2, .string f3, .string f4, .string f5, .int .i64 f6, .string f7] 33)).drewN nq) := below_drewN (hbt.alloc htz _) _
            have hq2 : Below w.heap.size w ((wr.alloc (.cells #[.string f0, .string f1, .string f2, .string f3, .string f4, .string f5, .int .i64 f6, .string f7] 33)).drewN nq) := below_drewN (hbw.alloc hwz _) _
            have hq3 : ((wr.alloc (.cells #[.string f0, .string f1, .string f2, .string f3, .string f4, .string f5, .int .i64 f6, .string f7] 33)).drewN nq).cell? ⟨mbt, 3, none⟩ = some cvt := (World.cell?_alloc_past _ _ _ hMr).trans n3
            have hq4 : ((wr.alloc (.cells #[.string f0, .string f1, .string f2, .string f3, .string f4, .string f5, .int .i64 f6, .string f7] 33)).drewN nq).cell? ⟨wr.heap.size, 0, none⟩ = some (.string f0) := by
              show (wr.alloc _).cell? _ = _
              rw [World.cell?_alloc_at _ _ _ _ rfl]; rfl
            clear n0 n1 n2 n3 c1 h0 h1 h2 h3 h4 h5 h6 h7
            generalize ((wr.alloc (.cells #[.string f0, .string f1, .string f2, .string f3, .string f4, .string f5, .int .i64 f6, .string f7] 33)).drewN nq) = wq at hq1 hq2 hq3 hq4 ⊢
            go_upto_region 17 with fail
            go_cut [94] (fun v9 w9 => v9 = .bool false ∧ Below wt.heap.size wt w9 ∧ Below w.heap.size w w9)
            case first =>
              go_region_with (go_at_call 14; refine (HCALL.out _ ?_).mono ?_; exact hq1.drew; rintro e w9 ⟨rfl, hb9⟩)
              all_goals
                go_wp2_with fail
                go_meet
                exact ⟨rfl, hq1.drew.trans (hb9.mono hq1.drew.size), hq2.drew.trans (hb9.mono hq2.drew.size)⟩
            case rest =>
              obtain ⟨rfl, hb1, hb2⟩ := hcut
              go_wp2_with fail
              go_roundw
              case rel => exact ⟨t + 1, by omega, by go_num, by rw [HUP.out, List.length_append, HKU.out]; rfl, hb1, hb2⟩
              case measure => simp [intOf]; omega
      · -- passed over
        have hsf : p t = false := by simpa using hsel
        rw [hsf] at hpt hup
        simp only [Bool.false_eq_true, if_false, List.append_nil] at hup
        have HUP := hide (congrArg List.length hup)
        clear hup hsel hsf
        unfold menuB at hpt
        generalize hf : F t = fe at h0 h1 h2 h3 h4 h5 h6 h7 hpt
        clear hf
        obtain ⟨f0, f1, f2, f3, f4, f5, f6, f7⟩ := fe
        simp only at h0 h1 h2 h3 h4 h5 h6 h7 hpt
        generalize (upTo p t).length = kt at *
        cases htm : (f4.toList == [109, 101, 110, 117]) with
        | false =>
          clear hpt
          go_wp2_with fail
          go_roundw
          case rel => exact ⟨t + 1, by omega, by go_num, by rw [HUP.out], hbt.alloc htz _, hbw.alloc hwz _⟩
          case measure => simp [intOf]; omega
        | true =>
          rw [htm] at hpt
          cases root with
          | true =>
            have hpe : f5.toList.isEmpty = false := by simpa using hpt.symm
            clear hpt
            go_wp2_with fail
            go_roundw
            case rel => exact ⟨t + 1, by omega, by go_num, by rw [HUP.out], hbt.alloc htz _, hbw.alloc hwz _⟩
            case measure => simp [intOf]; omega
          | false =>
            cases hpe : f5.toList.isEmpty with
            | true =>
              clear hpt
              go_wp2_with fail
              go_roundw
              case rel => exact ⟨t + 1, by omega, by go_num, by rw [HUP.out], hbt.alloc htz _, hbw.alloc hwz _⟩
              case measure => simp [intOf]; omega
            | false =>
              have hpp : (f5.toList == pc.toList) = false := by rw [hpe] at hpt; simpa using hpt.symm
              clear hpt
              go_wp2_with fail
              go_roundw
              case rel => exact ⟨t + 1, by omega, by go_num, by rw [HUP.out], hbt.alloc htz _, hbw.alloc hwz _⟩
              case measure => simp [intOf]; omega
    · obtain rfl : t = n := by omega
      rw [HLN.out]
      go_wp2_with fail
      go_ret
      exact ⟨rfl, hbw⟩

theorem match_all (wt : World) (F : Nat → Entry) (n : Nat) (MB : Nat → Nat) (CV : Nat → Value) (xh : Option Addr) (hF : Forest wt F n MB CV) (hE : Entries wt xh n F) (hn : n ≤ 65536) (hdc : ∀ i j, i < n → j < n → i ≠ j → (F i).code ≠ (F j).code) :
    ∀ f d, f + d = n + 1 → d ≤ n → MatchSaid wt F n MB xh f d
  | 0, d, h, hd => by omega
  | f + 1, d, h, hd => match_step wt F n MB CV xh hF hE hn hdc f d h (fun hd' => match_all wt F n MB CV xh hF hE hn hdc f (d + 1) (by omega) hd')
end Menu
end Go.Proofs.Qxb6603473a
