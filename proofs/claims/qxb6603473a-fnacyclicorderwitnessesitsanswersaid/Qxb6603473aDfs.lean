namespace Go.Proofs.Qxb6603473a
namespace Dfs

def upd (f : Nat → Nat) (v x : Nat) (i : Nat) : Nat := if i = v then x else f i
theorem upd_same (f : Nat → Nat) (v x : Nat) : upd f v x v = x := by simp [upd]
theorem upd_other (f : Nat → Nat) {v x i : Nat} (h : i ≠ v) : upd f v x i = f i := by simp [upd, h]

def nodes (P : List (Nat × Nat)) : List Nat := P.map (·.1)
theorem nodes_append (A B : List (Nat × Nat)) : nodes (A ++ B) = nodes A ++ nodes B := by simp [nodes]
theorem nodes_one (v x : Nat) : nodes [(v, x)] = [v] := rfl
theorem nodes_cons (p : Nat × Nat) (A : List (Nat × Nat)) : nodes (p :: A) = p.1 :: nodes A := rfl
theorem length_nodes (P : List (Nat × Nat)) : (nodes P).length = P.length := by simp [nodes]

/-- Every edge of a node of O leads to one that stands ahead of it. -/
def Topo (L : Nat → Nat) (E : Nat → Nat → Nat) (O : List Nat) : Prop := ∀ A v B, O = A ++ v :: B → ∀ k, k < L v → E v k ∈ A

/-- The path: of every node on it all edges that were followed lead into O, but the last of one that is not the top, which leads to the next. -/
def Chain (E : Nat → Nat → Nat) (O : List Nat) : List (Nat × Nat) → Prop
  | [] => True
  | [p] => ∀ k, k < p.2 → E p.1 k ∈ O
  | p :: q :: r => 0 < p.2 ∧ E p.1 (p.2 - 1) = q.1 ∧ (∀ k, k + 1 < p.2 → E p.1 k ∈ O) ∧ Chain E O (q :: r)

structure Inv (n : Nat) (L : Nat → Nat) (E : Nat → Nat → Nat) (O : List Nat) (P : List (Nat × Nat)) (St : Nat → Nat) : Prop where
  olt : ∀ v, v ∈ O → v < n
  ond : O.Nodup
  st2 : ∀ i, i < n → (St i = 2 ↔ i ∈ O)
  plt : ∀ p, p ∈ P → p.1 < n ∧ p.2 ≤ L p.1
  pnd : (nodes P).Nodup
  st1 : ∀ i, i < n → (St i = 1 ↔ i ∈ nodes P)
  st : ∀ i, i < n → St i ≤ 2
  topo : Topo L E O
  chain : Chain E O P

variable {n : Nat} {L : Nat → Nat} {E : Nat → Nat → Nat} {O : List Nat} {P : List (Nat × Nat)} {St : Nat → Nat}

theorem Chain.mono {O O' : List Nat} (h : ∀ x, x ∈ O → x ∈ O') : ∀ {P : List (Nat × Nat)}, Chain E O P → Chain E O' P
  | [], _ => trivial
  | [_], hc => fun k hk => h _ (hc k hk)
  | _ :: _ :: _, ⟨h1, h2, h3, h4⟩ => ⟨h1, h2, fun k hk => h _ (h3 k hk), h4.mono h⟩

/-- The top's edges. -/
theorem Chain.top {v nx : Nat} : ∀ {A : List (Nat × Nat)}, Chain E O (A ++ [(v, nx)]) → ∀ k, k < nx → E v k ∈ O
  | [], h => h
  | [_], ⟨_, _, _, h⟩ => h
  | _ :: b :: A, ⟨_, _, _, h⟩ => Chain.top (A := b :: A) h

/-- The top turned: its counter one on, the new edge into O. -/
theorem Chain.bump {v nx : Nat} : ∀ {A : List (Nat × Nat)}, Chain E O (A ++ [(v, nx)]) → E v nx ∈ O → Chain E O (A ++ [(v, nx + 1)])
  | [], h, he => fun k hk => by
    by_cases e : k = nx
    · subst e; exact he
    · exact h k (by simp at hk ⊢; omega)
  | [_], ⟨h1, h2, h3, h4⟩, he => ⟨h1, h2, h3, Chain.bump (A := []) h4 he⟩
  | _ :: b :: A, ⟨h1, h2, h3, h4⟩, he => ⟨h1, h2, h3, Chain.bump (A := b :: A) h4 he⟩

/-- The top's counter one on, and the node that it leads to on top of it. -/
theorem Chain.push {v nx : Nat} : ∀ {A : List (Nat × Nat)}, Chain E O (A ++ [(v, nx)]) → Chain E O (A ++ [(v, nx + 1)] ++ [(E v nx, 0)])
  | [], h => ⟨by simp, by simp, fun k hk => h k (by simp at hk ⊢; omega), fun k hk => by simp at hk⟩
  | [_], ⟨h1, h2, h3, h4⟩ => ⟨h1, h2, h3, Chain.push (A := []) h4⟩
  | _ :: b :: A, ⟨h1, h2, h3, h4⟩ => ⟨h1, h2, h3, Chain.push (A := b :: A) h4⟩

/-- The top taken off, itself now in O. -/
theorem Chain.pop {v nx : Nat} : ∀ {A : List (Nat × Nat)}, Chain E O (A ++ [(v, nx)]) → Chain E (O ++ [v]) A
  | [], _ => trivial
  | [a], ⟨h1, h2, h3, _⟩ => fun k hk => by
    by_cases e : k + 1 = a.2
    · have : k = a.2 - 1 := by omega
      rw [this, h2]
      simp
    · simp [h3 k (by omega)]
  | a :: b :: A, ⟨h1, h2, h3, h4⟩ => ⟨h1, h2, fun k hk => by simp [h3 k hk], Chain.pop (A := b :: A) h4⟩

/-- Two that follow one another on the path are joined by an edge. -/
theorem Chain.next : ∀ {P : List (Nat × Nat)}, Chain E O P → (∀ p, p ∈ P → p.2 ≤ L p.1) → ∀ i u v, (nodes P)[i]? = some u → (nodes P)[i + 1]? = some v → ∃ k, k < L u ∧ E u k = v
  | [], _, _, _, _, _, h, _ => by simp [nodes] at h
  | [_], _, _, i, _, _, _, h => by simp [nodes] at h
  | p :: q :: r, ⟨h1, h2, _, h4⟩, hp, i, u, v, hu, hv => by
    cases i with
    | zero =>
      simp [nodes] at hu hv
      subst hu; subst hv
      exact ⟨p.2 - 1, by have := hp p (by simp); omega, h2⟩
    | succ i => exact Chain.next h4 (fun x hx => hp x (by simp [hx])) i u v (by simpa [nodes] using hu) (by simpa [nodes] using hv)

theorem inv_init (n : Nat) (L : Nat → Nat) (E : Nat → Nat → Nat) : Inv n L E [] [] (fun _ => 0) :=
  ⟨by simp, by simp, by simp, by simp, by simp [nodes], by simp [nodes], by simp, by intro A v B h; simp at h, trivial⟩

theorem inv_start {s : Nat} (h : Inv n L E O [] St) (hs : s < n) (h0 : St s = 0) : Inv n L E O [(s, 0)] (upd St s 1) := by
  refine ⟨h.olt, h.ond, fun i hi => ?_, ?_, by simp [nodes], fun i hi => ?_, fun i hi => ?_, h.topo, fun k hk => by simp at hk⟩
  · by_cases e : i = s
    · subst e
      rw [upd_same]
      have := h.st2 i hi
      rw [h0] at this
      simpa using this
    · rw [upd_other _ e]; exact h.st2 i hi
  · simp; omega
  · by_cases e : i = s
    · subst e; simp [upd_same, nodes]
    · rw [upd_other _ e, h.st1 i hi]; simp [nodes, e]
  · by_cases e : i = s
    · subst e; simp [upd_same]
    · rw [upd_other _ e]; exact h.st i hi

theorem inv_pop {v : Nat} (h : Inv n L E O (P ++ [(v, L v)]) St) : Inv n L E (O ++ [v]) P (upd St v 2) := by
  have hv : v < n := (h.plt (v, L v) (by simp)).1
  have hnd := h.pnd
  rw [nodes_append, nodes_one, List.nodup_append] at hnd
  have hvP : v ∉ nodes P := fun hm => hnd.2.2 v hm v (by simp) rfl
  have hvO : v ∉ O := fun hm => by
    have h2 := (h.st2 v hv).2 hm
    have h1 := (h.st1 v hv).2 (by rw [nodes_append, nodes_one]; simp)
    omega
  refine ⟨?_, ?_, fun i hi => ?_, fun p hp => h.plt p (by simp [hp]), hnd.1, fun i hi => ?_, fun i hi => ?_, ?_, h.chain.pop⟩
  · intro x hx
    rcases List.mem_append.1 hx with hx | hx
    · exact h.olt x hx
    · simp at hx; omega
  · rw [List.nodup_append]
    exact ⟨h.ond, by simp, fun a ha b hb => by simp at hb; subst hb; intro e; subst e; exact hvO ha⟩
  · by_cases e : i = v
    · subst e; simp [upd_same]
    · rw [upd_other _ e, h.st2 i hi]; simp [e]
  · by_cases e : i = v
    · subst e
      rw [upd_same]
      simp [hvP]
    · rw [upd_other _ e, h.st1 i hi, nodes_append, nodes_one]; simp [e]
  · by_cases e : i = v
    · subst e; simp [upd_same]
    · rw [upd_other _ e]; exact h.st i hi
  · intro A u B he k hk
    rcases List.append_eq_append_iff.1 he with ⟨C, hA, hC⟩ | ⟨C, hA, hC⟩
    · -- A = O ++ C, [v] = C ++ u :: B
      cases C with
      | nil =>
        simp at hC hA
        obtain ⟨rfl, rfl⟩ := hC
        rw [hA]
        exact h.chain.top k hk
      | cons c C =>
        simp at hC
    · -- O = A ++ C, u :: B = C ++ [v]
      cases C with
      | nil =>
        simp at hC hA
        obtain ⟨rfl, rfl⟩ := hC
        rw [← hA]
        exact h.chain.top k hk
      | cons c C =>
        simp at hC
        obtain ⟨rfl, rfl⟩ := hC
        exact h.topo A u C hA k hk

theorem inv_done {v nx : Nat} (h : Inv n L E O (P ++ [(v, nx)]) St) (hx : nx < L v) (hE : E v nx < n) (hd : St (E v nx) = 2) : Inv n L E O (P ++ [(v, nx + 1)]) St := by
  refine ⟨h.olt, h.ond, h.st2, ?_, ?_, ?_, h.st, h.topo, h.chain.bump ((h.st2 _ hE).1 hd)⟩
  · intro p hp
    rcases List.mem_append.1 hp with hp | hp
    · exact h.plt p (by simp [hp])
    · simp at hp
      subst hp
      exact ⟨(h.plt (v, nx) (by simp)).1, by simp; omega⟩
  · have := h.pnd
    rwa [nodes_append, nodes_one] at this ⊢
  · have := h.st1
    rwa [nodes_append, nodes_one] at this ⊢

theorem inv_push {v nx : Nat} (h : Inv n L E O (P ++ [(v, nx)]) St) (hx : nx < L v) (hE : E v nx < n) (hd : St (E v nx) = 0) : Inv n L E O (P ++ [(v, nx + 1)] ++ [(E v nx, 0)]) (upd St (E v nx) 1) := by
  have hno : E v nx ∉ O := fun hm => by have := (h.st2 _ hE).2 hm; omega
  have hnp : E v nx ∉ nodes (P ++ [(v, nx)]) := fun hm => by have := (h.st1 _ hE).2 hm; omega
  have hnn : nodes (P ++ [(v, nx + 1)] ++ [(E v nx, 0)]) = nodes (P ++ [(v, nx)]) ++ [E v nx] := by simp [nodes]
  refine ⟨h.olt, h.ond, fun i hi => ?_, ?_, ?_, fun i hi => ?_, fun i hi => ?_, h.topo, h.chain.push⟩
  · by_cases e : i = E v nx
    · rw [e, upd_same]; simp [hno]
    · rw [upd_other _ e]; exact h.st2 i hi
  · intro p hp
    rcases List.mem_append.1 hp with hp | hp
    · rcases List.mem_append.1 hp with hp | hp
      · exact h.plt p (by simp [hp])
      · simp at hp
        subst hp
        exact ⟨(h.plt (v, nx) (by simp)).1, by simp; omega⟩
    · simp at hp
      subst hp
      exact ⟨hE, Nat.zero_le _⟩
  · rw [hnn, List.nodup_append]
    exact ⟨h.pnd, by simp, fun a ha b hb => by simp at hb; subst hb; intro e; subst e; exact hnp ha⟩
  · rw [hnn]
    by_cases e : i = E v nx
    · rw [e, upd_same]; simp
    · rw [upd_other _ e, h.st1 i hi]; simp [e]
  · by_cases e : i = E v nx
    · rw [e, upd_same]; omega
    · rw [upd_other _ e]; exact h.st i hi

/-! ### The measure -/
def unseen (L St : Nat → Nat) : Nat → Nat
  | 0 => 0
  | i + 1 => unseen L St i + (if St i = 0 then L i + 2 else 0)
def left (L : Nat → Nat) : List (Nat × Nat) → Nat
  | [] => 0
  | p :: r => (L p.1 - p.2 + 1) + left L r
def mu (n : Nat) (L : Nat → Nat) (P : List (Nat × Nat)) (St : Nat → Nat) : Nat := unseen L St n + left L P

theorem left_append (A B : List (Nat × Nat)) : left L (A ++ B) = left L A + left L B := by
  induction A with
  | nil => simp [left]
  | cons a A ih => simp [left, ih]; omega

theorem unseen_out {v x : Nat} : ∀ m, m ≤ v → unseen L (upd St v x) m = unseen L St m
  | 0, _ => rfl
  | m + 1, h => by
    have ih := unseen_out (v := v) (x := x) m (by omega)
    have hne : m ≠ v := by omega
    simp only [unseen, ih]
    rw [upd_other _ hne]

theorem unseen_in {v x : Nat} (h0 : St v = 0) (hx : x ≠ 0) : ∀ m, v < m → unseen L (upd St v x) m + (L v + 2) = unseen L St m
  | m + 1, h => by
    by_cases e : m = v
    · subst e
      simp only [unseen, unseen_out m (Nat.le_refl _), upd_same, h0, if_neg hx, if_true]
      omega
    · have := unseen_in h0 hx m (by omega)
      simp only [unseen]
      rw [upd_other _ e]
      omega

theorem unseen_same {v x : Nat} (h0 : St v ≠ 0) (hx : x ≠ 0) : ∀ m, unseen L (upd St v x) m = unseen L St m
  | 0 => rfl
  | m + 1 => by
    simp only [unseen, unseen_same h0 hx m]
    by_cases e : m = v
    · subst e; simp [upd_same, h0, hx]
    · rw [upd_other _ e]

theorem mu_pop {v : Nat} (h : Inv n L E O (P ++ [(v, L v)]) St) : mu n L P (upd St v 2) < mu n L (P ++ [(v, L v)]) St := by
  have hv : v < n := (h.plt (v, L v) (by simp)).1
  have h1 := (h.st1 v hv).2 (by rw [nodes_append, nodes_one]; simp)
  unfold mu
  rw [unseen_same (by omega) (by omega), left_append]
  simp [left]

theorem mu_bump {v nx : Nat} (hx : nx < L v) : mu n L (P ++ [(v, nx + 1)]) St < mu n L (P ++ [(v, nx)]) St := by
  unfold mu
  rw [left_append, left_append]
  simp [left]
  omega

theorem mu_push {v nx : Nat} (hx : nx < L v) (hE : E v nx < n) (hd : St (E v nx) = 0) : mu n L (P ++ [(v, nx + 1)] ++ [(E v nx, 0)]) (upd St (E v nx) 1) < mu n L (P ++ [(v, nx)]) St := by
  have := unseen_in (L := L) (St := St) (v := E v nx) (x := 1) hd (by omega) n hE
  unfold mu
  rw [left_append, left_append, left_append]
  simp [left]
  omega

/-! ### The answers -/
/-- O, as a function of the place, lists 0 .. n-1, each behind all that it leads to. -/
structure Order (n : Nat) (L : Nat → Nat) (E : Nat → Nat → Nat) (F : Nat → Nat) : Prop where
  lt : ∀ p, p < n → F p < n
  inj : ∀ p q, p < n → q < n → F p = F q → p = q
  sur : ∀ i, i < n → ∃ p, p < n ∧ F p = i
  topo : ∀ p, p < n → ∀ k, k < L (F p) → ∃ q, q < p ∧ F q = E (F p) k

theorem length_le_of_subset : ∀ (l1 l2 : List Nat), l1.Nodup → (∀ x, x ∈ l1 → x ∈ l2) → l1.length ≤ l2.length
  | [], _, _, _ => Nat.zero_le _
  | a :: l1, l2, hnd, hs => by
    rw [List.nodup_cons] at hnd
    have ha : a ∈ l2 := hs a (by simp)
    have ih := length_le_of_subset l1 (l2.erase a) hnd.2 (fun x hx => (List.mem_erase_of_ne (fun e => hnd.1 (by rw [← e]; exact hx))).2 (hs x (by simp [hx])))
    have hl := List.length_erase_of_mem ha
    have hp := List.length_pos_of_mem ha
    simp
    omega

theorem getElem_inj {l : List Nat} (h : l.Nodup) {i j : Nat} (hi : i < l.length) (hj : j < l.length) (e : l[i] = l[j]) : i = j := by
  have hp := List.pairwise_iff_getElem.1 h
  rcases Nat.lt_trichotomy i j with hlt | he | hlt
  · exact absurd e (hp i j hi hj hlt)
  · exact he
  · exact absurd e.symm (hp j i hj hi hlt)

theorem order_length (h : Inv n L E O [] St) (hall : ∀ i, i < n → St i ≠ 0) : O.length = n := by
  have h1 := length_le_of_subset O (List.range n) h.ond (fun x hx => List.mem_range.2 (h.olt x hx))
  have h2 := length_le_of_subset (List.range n) O List.nodup_range (fun x hx => by
    have hx' := List.mem_range.1 hx
    have a := h.st x hx'
    have b := hall x hx'
    have c : St x ≠ 1 := fun e => by have := (h.st1 x hx').1 e; simp [nodes] at this
    exact (h.st2 x hx').1 (by omega))
  simp at h1 h2
  omega

theorem order_of (h : Inv n L E O [] St) (hall : ∀ i, i < n → St i ≠ 0) : Order n L E (fun p => O.getD p 0) := by
  have hl := order_length h hall
  have hg : ∀ p (hp : p < n), O.getD p 0 = O[p]'(by omega) := fun p hp => by simp [List.getD, show p < O.length by omega]
  refine ⟨fun p hp => ?_, fun p q hp hq e => ?_, fun i hi => ?_, fun p hp k hk => ?_⟩
  · rw [hg p hp]; exact h.olt _ (List.getElem_mem _)
  · rw [hg p hp, hg q hq] at e
    exact getElem_inj h.ond _ _ e
  · have a := h.st i hi
    have b := hall i hi
    have c : St i ≠ 1 := fun e => by have := (h.st1 i hi).1 e; simp [nodes] at this
    have hm := (h.st2 i hi).1 (by omega)
    obtain ⟨p, hp, he⟩ := List.getElem_of_mem hm
    exact ⟨p, by omega, by rw [hg p (by omega)]; exact he⟩
  · rw [hg p hp] at hk ⊢
    have hsplit : O = O.take p ++ O[p]'(by omega) :: O.drop (p + 1) := by
      rw [List.getElem_cons_drop, List.take_append_drop]
    have hm := h.topo _ _ _ hsplit k hk
    obtain ⟨q, hq, he⟩ := List.getElem_of_mem hm
    have hqp : q < p := by simp at hq; omega
    refine ⟨q, hqp, ?_⟩
    rw [hg q (by omega), ← he]
    simp

/-- Y is a closed walk of m nodes along edges, no node but the first met twice. -/
structure Cycle (n : Nat) (L : Nat → Nat) (E : Nat → Nat → Nat) (m : Nat) (Y : Nat → Nat) : Prop where
  two : 2 ≤ m
  lt : ∀ k, k < m → Y k < n
  ends : Y 0 = Y (m - 1)
  edge : ∀ k, k + 1 < m → ∃ e, e < L (Y k) ∧ E (Y k) e = Y (k + 1)
  inj : ∀ j k, j + 1 < m → k + 1 < m → Y j = Y k → j = k

/-- The path from place i on, closed by the node 'to' that stands there. -/
def cyc (P : List (Nat × Nat)) (i : Nat) (to : Nat) (k : Nat) : Nat := if k < P.length - i then (nodes P).getD (i + k) 0 else to

theorem cycle_of {v nx : Nat} (h : Inv n L E O (P ++ [(v, nx)]) St) (hx : nx < L v) (hE : E v nx < n) {i : Nat} (hi : i < (P ++ [(v, nx + 1)]).length) (hat : (nodes (P ++ [(v, nx + 1)])).getD i 0 = E v nx) :
    Cycle n L E ((P ++ [(v, nx + 1)]).length - i + 1) (cyc (P ++ [(v, nx + 1)]) i (E v nx)) := by
  have hn : nodes (P ++ [(v, nx + 1)]) = nodes (P ++ [(v, nx)]) := by simp [nodes]
  have hlen : (P ++ [(v, nx + 1)]).length = P.length + 1 := by simp
  have hnl : (nodes (P ++ [(v, nx)])).length = P.length + 1 := by rw [length_nodes]; simp
  have hg : ∀ j (hj : j < P.length + 1), (nodes (P ++ [(v, nx)])).getD j 0 = (nodes (P ++ [(v, nx)]))[j]'(by omega) := fun j hj => by simp [List.getD, show j < (nodes (P ++ [(v, nx)])).length by omega]
  have hlt : ∀ j, j < P.length + 1 → (nodes (P ++ [(v, nx)])).getD j 0 < n := fun j hj => by
    rw [hg j hj]
    have hm := List.getElem_mem (l := nodes (P ++ [(v, nx)])) (n := j) (by omega)
    obtain ⟨p, hp, he⟩ := List.mem_map.1 hm
    rw [← he]
    exact (h.plt p hp).1
  rw [hlen] at hi
  refine ⟨by omega, fun k hk => ?_, ?_, fun k hk => ?_, fun j k hj hk e => ?_⟩
  · unfold cyc
    split
    · rw [hn]; exact hlt _ (by omega)
    · exact hE
  · unfold cyc
    rw [if_pos (by omega), if_neg (by omega), Nat.add_zero]
    exact hat
  · unfold cyc
    rw [if_pos (by omega), hn]
    by_cases e : k + 1 < (P ++ [(v, nx + 1)]).length - i
    · rw [if_pos e]
      have h1 := hg (i + k) (by omega)
      have h2 := hg (i + k + 1) (by omega)
      rw [show i + (k + 1) = i + k + 1 by omega]
      exact Chain.next h.chain (fun p hp => (h.plt p hp).2) (i + k) _ _ (by rw [h1]; simp [show i + k < (nodes (P ++ [(v, nx)])).length by omega]) (by rw [h2]; simp [show i + k + 1 < (nodes (P ++ [(v, nx)])).length by omega])
    · rw [if_neg e, show i + k = P.length by omega]
      have : (nodes (P ++ [(v, nx)])).getD P.length 0 = v := by
        rw [nodes_append, nodes_one, List.getD_eq_getElem?_getD, List.getElem?_append_right (by rw [length_nodes]; omega), length_nodes]
        simp
      rw [this]
      exact ⟨nx, hx, rfl⟩
  · unfold cyc at e
    rw [if_pos (by omega), if_pos (by omega), hn, hg _ (by omega), hg _ (by omega)] at e
    have := getElem_inj h.pnd _ _ e
    omega

end Dfs
end Go.Proofs.Qxb6603473a
