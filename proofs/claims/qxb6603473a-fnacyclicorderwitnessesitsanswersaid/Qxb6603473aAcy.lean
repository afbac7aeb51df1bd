import Derived.Test.Qxb6603473aRowLaws
namespace Go.Proofs.Qxb6603473a
open Go.RowKit Dfs

def AcyPost (n : Nat) (L : Nat → Nat) (E : Nat → Nat → Nat) (w : World) (e : Ending) (w' : World) : Prop :=
  Below w.heap.size w w' ∧
  ((∃ g cap F, e = .returned (.tuple #[.slice (some ⟨g, 0, none⟩) n cap, .slice none 0 0]) ∧ Order n L E F ∧ ∀ p, p < n → w'.cell? ⟨g, p, none⟩ = some (.int .i64 (F p : Nat))) ∨
   (∃ g m cap Y, e = .returned (.tuple #[.slice none 0 0, .slice (some ⟨g, 0, none⟩) m cap]) ∧ Cycle n L E m Y ∧ m ≤ n + 1 ∧ ∀ k, k < m → w'.cell? ⟨g, k, none⟩ = some (.int .i64 (Y k : Nat))))

/-- What holds between two steps of the walk. -/
structure Mid (n : Nat) (L : Nat → Nat) (E : Nat → Nat → Nat) (w : World) (O : List Nat) (P : List (Nat × Nat)) (St : Nat → Nat) (vo vp : Value) (wr : World) : Prop where
  inv : Inv n L E O P St
  order : wr.ownsRow (w.heap.size + 1) 3 1 vo O.length (ints O)
  some : vo ≠ .slice none 0 0
  path : wr.ownsRow (w.heap.size + 1) 53 2 vp P.length (flatP P)
  row : StRow wr w.heap.size n St
  below : Below w.heap.size w wr

theorem path_short {n : Nat} {L : Nat → Nat} {E : Nat → Nat → Nat} {O : List Nat} {P : List (Nat × Nat)} {St : Nat → Nat} (h : Inv n L E O P St) : P.length ≤ n := by
  have := length_le_of_subset (nodes P) (List.range n) h.pnd (fun x hx => by
    obtain ⟨p, hp, rfl⟩ := List.mem_map.1 hx
    exact List.mem_range.2 (h.plt p hp).1)
  rw [length_nodes] at this
  simpa using this
theorem order_short {n : Nat} {L : Nat → Nat} {E : Nat → Nat → Nat} {O : List Nat} {P : List (Nat × Nat)} {St : Nat → Nat} (h : Inv n L E O P St) : O.length ≤ n := by
  have := length_le_of_subset O (List.range n) h.ond (fun x hx => List.mem_range.2 (h.olt x hx))
  simpa using this

theorem two_new {W : World} {B : Nat} (hB : B = W.heap.size) (x y : Value) (e : TypeId) : ∀ j u, [x, y][j]? = Option.some u → (W.alloc (.cells #[x, y] e)).cell? ((⟨B, 0, none⟩ : Addr).add j) = Option.some u := by
  subst hB
  intro j u hj
  rw [Go.WideShapes.add_plain, Nat.zero_add, cell_of_row _ _ _ _ _ _ (heap_alloc_new W _)]
  simpa using hj
theorem one_new {W : World} {B : Nat} (hB : B = W.heap.size) (x : Value) (e : TypeId) : ∀ j u, [x][j]? = Option.some u → (W.alloc (.cells #[x] e)).cell? ((⟨B, 0, none⟩ : Addr).add j) = Option.some u := by
  subst hB
  intro j u hj
  rw [Go.WideShapes.add_plain, Nat.zero_add, cell_of_row _ _ _ _ _ _ (heap_alloc_new W _)]
  simpa using hj
theorem two_cell (a b : Int) : ∀ u, u ∈ [Value.int .i64 a, .int .i64 b] → u.oneCell' = true := by
  intro u hu
  simp at hu
  rcases hu with rfl | rfl <;> rfl
theorem one_cell (a : Int) : ∀ u, u ∈ [Value.int .i64 a] → u.oneCell' = true := by
  intro u hu
  simp at hu
  subst hu; rfl

section
variable {n : Nat} {L : Nat → Nat} {E : Nat → Nat → Nat} {w W : World} {O : List Nat} {P : List (Nat × Nat)} {St : Nat → Nat} {vo vp : Value}

theorem mid_path {n' : Nat} {xs : List Value} (hinv : Inv n L E O P St) (horder : W.ownsRow (w.heap.size + 1) 3 1 vo O.length (ints O)) (hvo : vo ≠ .slice none 0 0) (hrow : StRow W w.heap.size n St) (hbel : Below w.heap.size w W)
    (hpath : W.ownsRow (w.heap.size + 1) 53 2 vp n' xs) {o : Obj} {w' : World} {v' : Value} (hown' : w'.ownsRow (w.heap.size + 1) 53 2 v' P.length (flatP P)) (hg : (W.alloc o).grownBy w' vp.ownBlock) : Mid n L E w O P St vo v' w' := by
  refine ⟨hinv, (horder.alloc o).kept hg (own_apart horder hpath (by decide)), hvo, hown', (hrow.alloc o).kept hg (own_block hpath (Nat.lt_succ_self _)), (hbel.alloc hbel.size o).grown hg (by simp; have := hbel.size; omega) (fun k hk => ?_)⟩
  have := (hpath.lt k hk).1
  omega

theorem mid_order {n' : Nat} {xs : List Value} (hinv : Inv n L E O P St) (hpath : W.ownsRow (w.heap.size + 1) 53 2 vp P.length (flatP P)) (hrow : StRow W w.heap.size n St) (hbel : Below w.heap.size w W)
    (horder : W.ownsRow (w.heap.size + 1) 3 1 vo n' xs) {o : Obj} {w' : World} {v' : Value} (hown' : w'.ownsRow (w.heap.size + 1) 3 1 v' O.length (ints O)) (hg : (W.alloc o).grownBy w' vo.ownBlock) (hv' : v' ≠ .slice none 0 0) : Mid n L E w O P St v' vp w' := by
  refine ⟨hinv, hown', hv', (hpath.alloc o).kept hg (own_apart hpath horder (by decide)), (hrow.alloc o).kept hg (own_block horder (Nat.lt_succ_self _)), (hbel.alloc hbel.size o).grown hg (by simp; have := hbel.size; omega) (fun k hk => ?_)⟩
  have := (horder.lt k hk).1
  omega

theorem Mid.drewN (M : Mid n L E w O P St vo vp W) (k : Nat) : Mid n L E w O P St vo vp (W.drewN k) :=
  ⟨M.inv, M.order, M.some, M.path, M.row, below_drewN M.below k⟩
theorem Mid.top {A : List (Nat × Nat)} {v nx : Nat} (M : Mid n L E w O (A ++ [(v, nx)]) St vo vp W) : ∃ g cp, vp = .slice (Option.some ⟨g, 0, none⟩) (A.length + 1) cp ∧ A.length + 1 ≤ cp ∧ cp ≤ maxLen ∧ g ≠ w.heap.size ∧
    W.cell? ⟨g, A.length * 2, none⟩ = Option.some (.int .i64 (v : Nat)) ∧ W.cell? ⟨g, A.length * 2 + 1, none⟩ = Option.some (.int .i64 (nx : Nat)) ∧ W.frozen? ⟨g, A.length * 2 + 1, none⟩ = false ∧ v < n ∧ nx ≤ L v ∧ St v = 1 ∧
    W.ownsRow (w.heap.size + 1) 53 2 (.slice (Option.some ⟨g, 0, none⟩) (A.length + 1) cp) (A.length + 1) (flatP (A ++ [(v, nx)])) := by
  have hp := M.path
  rw [show (A ++ [(v, nx)]).length = A.length + 1 by simp] at hp
  obtain ⟨g, cp, rfl, h1, h2⟩ := own_form hp (by omega)
  have hv := M.inv.plt (v, nx) (by simp)
  have c0 := own_cell hp (flatP_top A v nx).1
  have c1 := own_cell hp (flatP_top A v nx).2
  refine ⟨g, cp, rfl, h1, h2, fun e => ?_, c0.1, c1.1, c1.2, hv.1, hv.2, (M.inv.st1 v hv.1).2 (by rw [nodes_append, nodes_one]; simp), hp⟩
  exact own_block hp (Nat.lt_succ_self _) (by rw [e]; rfl)
end

def gather (N : List Nat) (i t : Nat) : List Nat := (N.drop i).take t
theorem gather_step (N : List Nat) (i t : Nat) (h : i + t < N.length) : gather N i (t + 1) = gather N i t ++ [N.getD (i + t) 0] := by
  unfold gather
  rw [List.take_add_one, List.getElem?_drop, List.getElem?_eq_getElem h]
  simp [List.getD, h]
theorem gather_length (N : List Nat) (i t : Nat) (h : i + t ≤ N.length) : (gather N i t).length = t := by simp [gather]; omega
theorem gather_get (P : List (Nat × Nat)) (i t0 k : Nat) (hi : i < P.length) (hk : k < P.length - i + 1) : (gather (nodes P) i (P.length - i) ++ [t0])[k]? = some (cyc P i t0 k) := by
  have hl := gather_length (nodes P) i (P.length - i) (by rw [length_nodes]; omega)
  unfold cyc
  by_cases h : k < P.length - i
  · rw [if_pos h, List.getElem?_append_left (by omega)]
    unfold gather
    rw [List.getElem?_take, if_pos h, List.getElem?_drop, List.getElem?_eq_getElem (by rw [length_nodes]; omega)]
    simp [List.getD, show i + k < (nodes P).length by rw [length_nodes]; omega]
  · rw [if_neg h, List.getElem?_append_right (by omega), show k - (gather (nodes P) i (P.length - i)).length = 0 by omega]
    rfl

set_option maxHeartbeats 4000000 in
set_option maxRecDepth 100000 in
theorem acy_any (x : Option Addr) (n cap : Nat) (L : Nat → Nat) (E : Nat → Nat → Nat) (w : World) (h : Graph w x n L (fun i k => (E i k : Nat))) (hn : n ≤ 65536) (hL : ∀ i, i < n → L i ≤ 1048576) (hE : ∀ i, i < n → ∀ k, k < L i → E i k < n) :
    Calls Try.prog 17 #[.slice x n cap] w (AcyPost n L E w) := by
  obtain ⟨i5, hi5, hz50, hz51, hz52⟩ := info_parts Try.info5
  have hmk1 := run_make (P := Try.prog) w 50 5 i5 _ Try.underlying50 hi5 hz50 .i64 .i64 n n (by omega) (by omega) (by rw [hz52]; omega) (by omega)
  rw [hz51, Int.toNat_natCast, Nat.mul_one] at hmk1
  have hst := StRow.made w n
  generalize madeCells (Value.int .u8 0).cells n = m5 at hmk1 hst
  obtain ⟨i3, hi3, hz30, hz31, hz32⟩ := info_parts Try.info3
  obtain ⟨w2, hmk2, ho2, hg2⟩ := run_make_own (P := Try.prog) (w.alloc (.cells m5 5)) (w.heap.size + 1) 24 3 i3 _ 1 Try.underlying24 hi3 hz30 hz31 .i64 .i64 n (by rw [hz32]; omega) (by unfold maxLen; omega) (by simp)
  rw [World.size_alloc] at hmk2 ho2
  have M0 : Mid n L E w [] [] (fun _ => 0) (.slice (some ⟨w.heap.size + 1, 0, none⟩) 0 n) (.slice none 0 0) w2 :=
    ⟨inv_init n L E, ho2, by simp, World.ownsRow_nil _ _ _ _, hst.kept hg2 (by simp), ((Below.refl _ _).alloc (Nat.le_refl _) _).grown hg2 (by simp) (fun k hk => by cases hk)⟩
  obtain ⟨i53, hi53, hz530, hz531, hz532⟩ := info_parts Try.info53
  obtain ⟨hm, hc⟩ := h
  have HC := hide hc
  have HL := hide hL
  have HE := hide hE
  clear hc hL hE hst ho2 hg2 hm
  go_enter Try.func17, Try.ntmps17
  go_wp2
  go_loopg [2, 3, 5, 20] n (fun gk vo vc vp i wr => ∃ s : Nat, s + gk = n ∧ i = .int .i64 s ∧ vc = .slice none 0 0 ∧ ∃ O St, Mid n L E w O [] St vo vp wr ∧ Hid (∀ i, i < s → St i ≠ 0))
  case atStart => exact ⟨0, by omega, rfl, rfl, [], _, M0, fun i hi => by omega⟩
  case round =>
    clear hmk1 hmk2 M0
    obtain ⟨s, hs, rfl, rfl, O, St, M, HS⟩ := hrel
    by_cases hlt : s < n
    case neg =>
      obtain rfl : s = n := by omega
      have hl := order_length M.inv HS.out
      have hord := order_of M.inv HS.out
      obtain ⟨g, co, rfl, hx1, hx2⟩ : ∃ g co, u2 = .slice (Option.some ⟨g, 0, none⟩) s co ∧ s ≤ co ∧ co ≤ maxLen := by
        rcases M.order.2 with ⟨h0, _⟩ | ⟨g, co, cur, rfl, _, _, h1, h2, _⟩
        · exact absurd h0 M.some
        · exact ⟨g, co, by rw [hl], by rw [← hl]; exact h1, h2⟩
      have HX : Hid (AcyPost s L E w (.returned (.tuple #[.slice (Option.some ⟨g, 0, none⟩) s co, .slice none 0 0])) wr) := by
        refine ⟨M.below, .inl ⟨g, co, _, rfl, hord, fun p hp => ?_⟩⟩
        have ho := M.order
        rw [hl] at ho
        refine (own_cell ho (j := p) ?_).1
        simp [ints, List.getD, show p < O.length by omega]
      clear M HS hord
      go_wp2
      go_ret2
      exact HX.out
    obtain ⟨b, off, rfl, hcc⟩ := HC.out (by omega)
    have hsc := M.row.cell hlt
    obtain ⟨sc, sf⟩ := hsc
    by_cases h0 : St s = 0
    case neg =>
      have hb0 : ((St s : Int) != 0) = true := by rw [bne_iff_ne]; omega
      have HM := hide M
      have HS1 : Hid (∀ i, i < s + 1 → St i ≠ 0) := fun i hi => by
        by_cases e : i = s
        · rw [e]; exact h0
        · exact HS.out i (by omega)
      clear M sf hcc h0 HS
      go_wp2
      go_roundg (gk - 1)
      case measure => omega
      case rel => exact ⟨s + 1, by omega, by go_num, rfl, O, St, HM.out, HS1⟩
    have hb0 : ((St s : Int) != 0) = false := by rw [bne_eq_false_iff_eq]; omega
    have hpath := own_setCell M.path (own_block M.path (Nat.lt_succ_self _)) (a := ⟨w.heap.size, s, none⟩) (.int .u8 1)
    have horder := own_setCell M.order (own_block M.order (Nat.lt_succ_self _)) (a := ⟨w.heap.size, s, none⟩) (.int .u8 1)
    have hrow := M.row.set hlt 1
    have hbel := M.below.setCell (p := ⟨w.heap.size, s, none⟩) (Nat.le_refl _) (.int .u8 1)
    have hinv := inv_start M.inv hlt h0
    have hvo := M.some
    have hsz := M.row.lt
    go_upto_region 9 with fail
    clear sc sf M hb0
    go_cut [5] (fun vp w' => Mid n L E w O [(s, 0)] (upd St s 1) u2 vp w')
    case first =>
      have HV := hide hvo
      have HI := hide hinv
      clear hcc h0 hvo hinv
      rcases hpath.2 with ⟨rfl, _⟩ | ⟨g, cp, cur, rfl, _, _, hcp, hcm, _⟩
      all_goals
        go_wp2_with (at_builtin; refine wpList_append_own _ rfl _ _ 51 rfl (w.heap.size + 1) 53 i53 _ 2 16 Try.underlying51 hi53 hz530 hz531 hz532 rfl (by decide) _ _ _ rfl (hpath.alloc _) ⟨wr.heap.size, 0, none⟩ 1 1 [.int .i64 s, .int .i64 0] rfl rfl (two_new (by simp) _ _ _) (two_cell _ _) (by simp [maxLen]) (by simp) (by simp; omega) ?_)
        intro v' w1 hown1 hg1 _
        have M1 := hide (mid_path (P := [(s, 0)]) HI.out horder HV.out hrow hbel hpath (by simpa [flatP] using hown1) hg1)
        clear hown1 hg1 hpath horder hrow hbel
        go_wp2_with fail
        go_meet
        case rel => exact M1.out
    case rest =>
      have HS1 : Hid (∀ i, i < s + 1 → upd St s 1 i ≠ 0) := fun i hi => by
        by_cases e : i = s
        · rw [e, upd_same]; omega
        · rw [upd_other _ e]; exact HS.out i (by omega)
      clear hpath horder hrow hbel hinv hvo HS h0
      go_wp2_with fail
      go_loopg [2, 3, 5] (mu n L [(s, 0)] (upd St s 1)) (fun mk vo vc vp wr => vc = .slice none 0 0 ∧ ∃ O P St, Mid n L E w O P St vo vp wr ∧ mu n L P St = mk ∧ Hid (∀ i, i < s + 1 → St i ≠ 0))
      case atStart => exact ⟨rfl, _, _, _, hcut, rfl, HS1⟩
      case round =>
        clear hcut HS1
        obtain ⟨rfl, O, P, St, M, hmu, HS⟩ := hrel
        rcases List.eq_nil_or_concat P with rfl | ⟨A, p, rfl⟩
        · have hvp : ∃ x c, u5 = .slice x 0 c := by
            rcases M.path.2 with ⟨h, _⟩ | ⟨g, c, cur, h, _⟩
            · exact ⟨_, _, h⟩
            · exact ⟨_, _, h⟩
          obtain ⟨x5, c5, rfl⟩ := hvp
          have HM := hide M
          clear M hmu hcc
          go_wp2_with fail
          go_roundg (n - (s + 1))
          case measure => omega
          case rel => exact ⟨s + 1, by omega, by go_num, rfl, O, St, HM.out, HS⟩
        · obtain ⟨v, nx⟩ := p
          rw [List.concat_eq_append] at M hmu
          obtain ⟨g, cp, rfl, hcp, hcm, hgB, cg0, cg1, fg1, hv, hnx, hsv, hpath⟩ := M.top
          have hAn : A.length + 1 ≤ n := by
            have := path_short M.inv
            simpa using this
          obtain ⟨y, cpv, q1, q2, q3⟩ := hcc v hv
          have hbw := World.block_lt_of_cell? w _ q1
          simp only at hbw
          have d1 := (M.below.cell (p := ⟨b, off + v, none⟩) hbw).trans q1
          have hLv := HL.out v hv
          unfold maxLen at hcm
          by_cases hpop : nx = L v
          · subst hpop
            clear q2 q3 hcc
            go_upto_region 12 with fail
            go_quiet (fail)
            have M1 := M.drewN nq
            clear M cg0 cg1 fg1 d1 hpath
            generalize wr.drewN nq = wq at M1 ⊢
            obtain ⟨g', cp', he, _, _, _, cg0, cg1, fg1, _, _, _, hpath⟩ := M1.top
            obtain ⟨rfl, rfl⟩ : g = g' ∧ cp = cp' := by simpa using he
            obtain ⟨sv, sf⟩ := M1.row.cell hv
            have horder1 := own_setCell M1.order (own_block M1.order (Nat.lt_succ_self _)) (a := ⟨w.heap.size, v, none⟩) (.int .u8 2)
            have hpath1 := own_setCell hpath (own_block hpath (Nat.lt_succ_self _)) (a := ⟨w.heap.size, v, none⟩) (.int .u8 2)
            have hrow1 := M1.row.set hv 2
            have hbel1 := M1.below.setCell (p := ⟨w.heap.size, v, none⟩) (Nat.le_refl _) (.int .u8 2)
            have hsz := M1.row.lt
            have HI := hide (inv_pop M1.inv)
            have HMU := hide (mu_pop M1.inv)
            have hol := order_short M1.inv
            have cg0' := (own_cell hpath1 (flatP_top A v (L v)).1).1
            have HP := hide (ownsRow_pop (length_flatP A) (by rw [← flatP_append]; exact hpath1))
            have HMM := hide hmu
            clear M1 hpath hpath1 cg1 fg1 he hmu
            go_wp2_with (at_builtin; refine wpList_append_own _ rfl _ _ 24 rfl (w.heap.size + 1) 3 i3 _ 1 8 Try.underlying24 hi3 hz30 hz31 hz32 rfl (by decide) _ _ _ rfl (horder1.alloc _) ⟨wq.heap.size, 0, none⟩ 1 1 [.int .i64 v] rfl rfl (one_new (by simp) _ _) (one_cell _) (by unfold maxLen; omega) (by omega) (by simp; omega) ?_)
            intro v' w1 hown1 hg1 hne1
            have M2 := hide (mid_order (O := O ++ [v]) (P := A) HI.out HP.out hrow1 hbel1 horder1 (by simpa [ints] using hown1) hg1 hne1)
            clear hown1 hg1 hne1 horder1 hrow1 hbel1 cg0 cg0' sv sf
            go_wp2_with fail
            go_roundg (mu n L A (upd St v 2))
            case measure => rw [← HMM.out]; exact HMU.out
            case rel => exact ⟨rfl, O ++ [v], A, upd St v 2, M2.out, rfl, fun i hi => by
              by_cases e : i = v
              · rw [e, upd_same]; omega
              · rw [upd_other _ e]; exact HS.out i hi⟩
          · have hnl : nx < L v := by omega
            have hb : ((nx : Int) == (L v : Int)) = false := beq_eq_false_iff_ne.2 (by omega)
            obtain ⟨b', off', rfl, hrow⟩ := q3.2 (by omega)
            have r1 := hrow nx hnl
            have hto := HE.out v hv nx hnl
            have hbw' := World.block_lt_of_cell? w _ r1
            simp only at hbw'
            clear q2 q3 hcc hrow hpop
            go_upto_region 12 with fail
            go_quiet (fail)
            have M1 := M.drewN nq
            clear M cg0 cg1 fg1 d1 hpath
            generalize wr.drewN nq = wq at M1 ⊢
            obtain ⟨g', cp', he, _, _, _, cg0, cg1, fg1, _, _, _, hpath⟩ := M1.top
            obtain ⟨rfl, rfl⟩ : g = g' ∧ cp = cp' := by simpa using he
            have d1 := (M1.below.cell (p := ⟨b, off + v, none⟩) hbw).trans q1
            have d2 := (M1.below.cell (p := ⟨b', off' + nx, none⟩) hbw').trans r1
            clear he hpath
            go_upto_region 16 with fail
            go_quiet (fail)
            have M2 := M1.drewN nq
            clear M1 cg0 cg1 fg1 d1 d2
            generalize wq.drewN nq = wp at M2 ⊢
            obtain ⟨g', cp', he, _, _, _, cg0, cg1, fg1, _, _, _, hpath⟩ := M2.top
            obtain ⟨rfl, rfl⟩ : g = g' ∧ cp = cp' := by simpa using he
            clear he
            go_upto_region 18 with fail
            have hpath2 : (wp.setCell ⟨g, A.length * 2 + 1, none⟩ (.int .i64 ((nx : Int) + 1))).ownsRow (w.heap.size + 1) 53 2 (.slice (Option.some ⟨g, 0, none⟩) (A.length + 1) cp) (A.length + 1) (flatP (A ++ [(v, nx + 1)])) := by
              have := own_set hpath (j := A.length * 2 + 1) (.int .i64 ((nx + 1 : Nat) : Int))
              rw [flatP_set] at this
              exact this
            have hgr := grownBy_setCell wp ⟨g, A.length * 2 + 1, none⟩ (.int .i64 ((nx : Int) + 1))
            have horder2 := M2.order.kept hgr (own_apart M2.order hpath (by decide))
            have hrow2 := M2.row.kept hgr (by simpa using hgB)
            have hbel2 := M2.below.setCell (p := ⟨g, A.length * 2 + 1, none⟩) (by have := (hpath.lt g rfl).1; simp; omega) (.int .i64 ((nx : Int) + 1))
            have hsz2 : w.heap.size < (wp.setCell ⟨g, A.length * 2 + 1, none⟩ (.int .i64 ((nx : Int) + 1))).heap.size := hrow2.lt
            generalize wp.setCell ⟨g, A.length * 2 + 1, none⟩ (.int .i64 ((nx : Int) + 1)) = wv at *
            have hinv := M2.inv
            have hvo := M2.some
            clear M2 hpath cg0 cg1 fg1 hgr
            obtain ⟨st1, sf1⟩ := hrow2.cell hto
            have hst := hinv.st _ hto
            have hcase : St (E v nx) = 0 ∨ St (E v nx) = 1 ∨ St (E v nx) = 2 := by omega
            rcases hcase with h0 | h1 | h2
            · -- unseen: it is opened and pushed
              rw [h0] at st1
              have hpath3 := own_setCell hpath2 (own_block hpath2 (Nat.lt_succ_self _)) (a := ⟨w.heap.size, E v nx, none⟩) (.int .u8 1)
              have horder3 := own_setCell horder2 (own_block horder2 (Nat.lt_succ_self _)) (a := ⟨w.heap.size, E v nx, none⟩) (.int .u8 1)
              have hrow3 := hrow2.set hto 1
              have hbel3 := hbel2.setCell (p := ⟨w.heap.size, E v nx, none⟩) (Nat.le_refl _) (.int .u8 1)
              have HI := hide (inv_push hinv hnl hto h0)
              have HMU := hide (mu_push (n := n) (P := A) hnl hto h0)
              have HMM := hide hmu
              have HV := hide hvo
              clear hinv hvo hpath2 horder2 hrow2 hbel2 h0 hst hmu hgB
              go_wp2_with (at_builtin; refine wpList_append_own _ rfl _ _ 51 rfl (w.heap.size + 1) 53 i53 _ 2 16 Try.underlying51 hi53 hz530 hz531 hz532 rfl (by decide) _ _ _ rfl (hpath3.alloc _) ⟨wv.heap.size, 0, none⟩ 1 1 [.int .i64 (E v nx), .int .i64 0] rfl rfl (two_new (by simp) _ _ _) (two_cell _ _) (by unfold maxLen; omega) (by omega) (by simp; omega) ?_)
              intro v' w1 hown1 hg1 _
              have M3 := hide (mid_path (P := A ++ [(v, nx + 1)] ++ [(E v nx, 0)]) HI.out horder3 HV.out hrow3 hbel3 hpath3 (by rw [flatP_append]; simpa [flatP] using hown1) hg1)
              clear hown1 hg1 hpath3 horder3 hrow3 hbel3
              go_wp2_with fail
              go_roundg (mu n L (A ++ [(v, nx + 1)] ++ [(E v nx, 0)]) (upd St (E v nx) 1))
              case measure => rw [← HMM.out]; exact HMU.out
              case rel => exact ⟨rfl, O, _, _, M3.out, rfl, fun i hi => by
                by_cases e : i = E v nx
                · rw [e, upd_same]; omega
                · rw [upd_other _ e]; exact HS.out i hi⟩
            · -- open: a cycle
              rw [h1] at st1
              have hmem := (hinv.st1 _ hto).1 h1
              have hN : nodes (A ++ [(v, nx + 1)]) = nodes (A ++ [(v, nx)]) := by simp [nodes]
              have HEX : Hid (∃ j, j ≤ A.length ∧ (nodes (A ++ [(v, nx + 1)])).getD j 0 = E v nx) := by
                obtain ⟨j, hj, he⟩ := List.getElem_of_mem hmem
                have hj' : j < A.length + 1 := by rw [length_nodes] at hj; simpa using hj
                refine ⟨j, by omega, ?_⟩
                rw [hN]
                simp [List.getD, hj, he]
              have HCY := hide (fun i hi hat => cycle_of (i := i) hinv hnl hto hi hat)
              have hPL : (A ++ [(v, nx + 1)]).length = A.length + 1 := by simp
              have HFN := hide (flatP_node (A ++ [(v, nx + 1)]))
              have HGG := hide (gather_get (A ++ [(v, nx + 1)]))
              have HGS := hide (gather_step (nodes (A ++ [(v, nx + 1)])))
              have hNL : (nodes (A ++ [(v, nx + 1)])).length = A.length + 1 := by rw [length_nodes, hPL]
              generalize A ++ [(v, nx + 1)] = P2 at *
              clear hinv hvo horder2 hrow2 h1 hst hmu hgB hmem hN HS
              go_wp2_with fail
              go_loop [9] (fun v9 => ∃ i : Nat, i ≤ A.length ∧ v9 = .int .i64 i ∧ Hid (∃ j, j ≤ i ∧ (nodes P2).getD j 0 = E v nx)) (fun v9 => (intOf v9).toNat)
              case atStart => exact ⟨A.length, Nat.le_refl _, rfl, HEX⟩
              case round =>
                obtain ⟨i, hi, rfl, HJ⟩ := hrel
                have cn := (own_cell hpath2 (HFN.out i (by omega)).1).1
                obtain ⟨q, hq⟩ : ∃ q, q = (nodes P2).getD i 0 := ⟨_, rfl⟩
                rw [← hq] at cn
                by_cases hat : q = E v nx
                · have hb : ((q : Int) != (E v nx : Int)) = false := by rw [bne_eq_false_iff_eq]; omega
                  have HAT := hide (hq.symm.trans hat)
                  clear hat HJ hq
                  go_wp2_with fail
                  go_loopw [3, 128] (fun vc t wr => ∃ k : Nat, k ≤ A.length + 1 - i ∧ t = .int .i64 k ∧ wr.ownsRow (w.heap.size + 1) 3 1 vc k (ints (gather (nodes P2) i k)) ∧
                    wr.ownsRow (w.heap.size + 1) 53 2 (.slice (Option.some ⟨g, 0, none⟩) (A.length + 1) cp) (A.length + 1) (flatP P2) ∧ Below w.heap.size w wr ∧ w.heap.size < wr.heap.size) (fun _ t _ => A.length + 1 - i - (intOf t).toNat)
                  case atStart => exact ⟨0, Nat.zero_le _, rfl, World.ownsRow_nil _ _ _ _, hpath2, hbel2, hsz2⟩
                  case round =>
                    clear hpath2 hbel2 hsz2 cn hb st1 sf1
                    obtain ⟨k, hk, rfl, hvc, hp, hbr, hsz3⟩ := hrel
                    by_cases hkl : k < A.length + 1 - i
                    · have c0 := (own_cell hp (HFN.out (i + k) (by omega)).1).1
                      have c1 := (own_cell hp (HFN.out (i + k) (by omega)).2).1
                      rw [show (i + k) * 2 = i * 2 + k * 2 by omega] at c0 c1
                      have HG := hide (HGS.out i k (by omega))
                      generalize (nodes P2).getD (i + k) 0 = q2 at c0 HG
                      generalize (P2.getD (i + k) (0, 0)).2 = r2 at c1
                      go_wp2_with (at_builtin; refine wpList_append_own _ rfl _ _ 24 rfl (w.heap.size + 1) 3 i3 _ 1 8 Try.underlying24 hi3 hz30 hz31 hz32 rfl (by decide) _ _ _ rfl ((hvc.alloc _).alloc _) ⟨wr.heap.size + 1, 0, none⟩ 1 1 [.int .i64 q2] rfl rfl (one_new (by simp) _ _) (one_cell _) (by unfold maxLen; omega) (by omega) (by simp; omega) ?_)
                      intro v' w1 hown1 hg1 _
                      have R1 : Hid (w1.ownsRow (w.heap.size + 1) 3 1 v' (k + 1) (ints (gather (nodes P2) i (k + 1)))) := by
                        show w1.ownsRow _ _ _ _ _ _
                        rw [HG.out]
                        simpa [ints] using hown1
                      have R2 := hide (((hp.alloc _).alloc _).kept hg1 (own_apart hp hvc (by decide)))
                      have R3 := hide (((hbr.alloc hbr.size _).alloc (by simp; have := hbr.size; omega) _).grown hg1 (by simp; have := hbr.size; omega) (fun j hj => by have := (hvc.lt j hj).1; omega))
                      have R4 : w.heap.size < w1.heap.size := by have := hg1.size; simp at this; omega
                      clear hown1 hg1 hvc hp hbr c0 c1
                      go_wp2_with fail
                      go_roundw
                      case rel => exact ⟨k + 1, by omega, by go_num, R1.out, R2.out, R3.out, R4⟩
                      case measure => simp [intOf]; omega
                    · obtain rfl : k = A.length + 1 - i := by omega
                      clear hp
                      go_wp2_with (at_builtin; refine wpList_append_own _ rfl _ _ 24 rfl (w.heap.size + 1) 3 i3 _ 1 8 Try.underlying24 hi3 hz30 hz31 hz32 rfl (by decide) _ _ _ rfl (hvc.alloc _) ⟨wr.heap.size, 0, none⟩ 1 1 [.int .i64 (E v nx)] rfl rfl (one_new (by simp) _ _) (one_cell _) (by unfold maxLen; omega) (by omega) (by simp; omega) ?_)
                      intro v' w1 hown1 hg1 _
                      obtain ⟨g', cap', rfl, _, _⟩ := own_form hown1 (by omega)
                      have HX : Hid (AcyPost n L E w (.returned (.tuple #[.slice none 0 0, .slice (Option.some ⟨g', 0, none⟩) (A.length + 1 - i + 1) cap'])) w1) := by
                        have hcy := HCY.out i (by omega) HAT.out
                        rw [hPL] at hcy
                        refine ⟨(hbr.alloc hbr.size _).grown hg1 (by simp; have := hbr.size; omega) (fun j hj => by have := (hvc.lt j hj).1; omega), .inr ⟨g', _, cap', _, rfl, hcy, by omega, fun k hk => ?_⟩⟩
                        have hget := HGG.out i (E v nx) k (by omega) (by omega)
                        rw [hPL] at hget
                        refine (own_cell hown1 ?_).1
                        have : ints (gather (nodes P2) i (A.length + 1 - i)) ++ [Value.int .i64 (E v nx : Nat)] = ints (gather (nodes P2) i (A.length + 1 - i) ++ [E v nx]) := by simp [ints]
                        rw [this]
                        unfold ints
                        rw [List.getElem?_map, hget]
                        rfl
                      clear hown1 hg1 hvc hbr
                      go_wp2_with fail
                      go_ret2
                      exact HX.out
                · have hb : ((q : Int) != (E v nx : Int)) = true := by rw [bne_iff_ne]; omega
                  have hi0 : 0 < i := by
                    obtain ⟨j, hj, he⟩ := HJ.out
                    rcases Nat.eq_zero_or_pos i with h | h
                    · rw [h] at hj
                      rw [show j = i by omega] at he
                      exact absurd (hq.trans he) hat
                    · exact h
                  have HJ' : Hid (∃ j, j ≤ i - 1 ∧ (nodes P2).getD j 0 = E v nx) := by
                    obtain ⟨j, hj, he⟩ := HJ.out
                    exact ⟨j, by
                      have : j ≠ i := fun e => by rw [e] at he; exact hat (hq.trans he)
                      omega, he⟩
                  clear hat HJ hq
                  go_wp2_with fail
                  go_round
                  case rel => exact ⟨i - 1, by omega, by go_num, HJ'⟩
                  case measure => simp [intOf]; omega
            · -- done: it is passed over
              rw [h2] at st1
              have HM : Hid (Mid n L E w O (A ++ [(v, nx + 1)]) St u2 (.slice (Option.some ⟨g, 0, none⟩) (A.length + 1) cp) wv) :=
                ⟨inv_done hinv hnl hto h2, horder2, hvo, by rw [show (A ++ [(v, nx + 1)]).length = A.length + 1 by simp]; exact hpath2, hrow2, hbel2⟩
              have HMU := hide (mu_bump (n := n) (L := L) (P := A) (St := St) hnl)
              have HMM := hide hmu
              clear hinv hvo hpath2 horder2 hrow2 hbel2 h2 hst hmu
              go_wp2_with fail
              go_roundg (mu n L (A ++ [(v, nx + 1)]) St)
              case measure => rw [← HMM.out]; exact HMU.out
              case rel => exact ⟨rfl, O, _, _, HM.out, rfl, HS⟩
end Go.Proofs.Qxb6603473a
