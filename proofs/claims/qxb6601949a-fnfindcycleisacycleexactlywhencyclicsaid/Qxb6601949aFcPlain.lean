/- THE PLAIN LAW OF findCycle AND OF KAHN's ALGORITHM: no Go in sight. A graph: n nodes; node u has L u edges, the c-th leads to E u c. -/
namespace Go.Proofs.Qxb6601949a.Fc

/-- A function turned at one place. -/
def upd (f : Nat → Nat) (i x : Nat) : Nat → Nat := fun j => if j = i then x else f j
theorem upd_same (f : Nat → Nat) (i x : Nat) : upd f i x i = x := by simp [upd]
theorem upd_other (f : Nat → Nat) (i x j : Nat) (h : j ≠ i) : upd f i x j = f j := by simp [upd, h]

/-- Each edge leads DOWN a rank. -/
def Ranked (n : Nat) (L : Nat → Nat) (E : Nat → Nat → Nat) : Prop := ∃ rk : Nat → Nat, ∀ u, u < n → ∀ c, c < L u → rk (E u c) < rk u
/-- Each edge leads UP a rank. -/
def RankedUp (n : Nat) (L : Nat → Nat) (E : Nat → Nat → Nat) : Prop := ∃ rk : Nat → Nat, ∀ u, u < n → ∀ c, c < L u → rk u < rk (E u c)
/-- There is an edge from u to v. -/
def Edge (L : Nat → Nat) (E : Nat → Nat → Nat) (u v : Nat) : Prop := ∃ c, c < L u ∧ E u c = v
/-- A cycle: distinct nodes, each joined to the next, the last to the first. -/
structure IsCyc (n : Nat) (L : Nat → Nat) (E : Nat → Nat → Nat) (cyc : List Nat) : Prop where
  ne : 0 < cyc.length
  nodup : cyc.Nodup
  lt : ∀ v, v ∈ cyc → v < n
  step : ∀ i u v, cyc[i]? = some u → cyc[i + 1]? = some v → Edge L E u v
  last : ∀ u v, cyc[cyc.length - 1]? = some u → cyc[0]? = some v → Edge L E u v

theorem IsCyc.le {n : Nat} {L : Nat → Nat} {E : Nat → Nat → Nat} {cyc : List Nat} (h : IsCyc n L E cyc) : cyc.length ≤ n := by
  have := List.Nodup.length_le_of_subset (l₂ := List.range n) h.nodup (fun v hv => List.mem_range.2 (h.lt v hv))
  simpa using this

/-- A graph that has a cycle has no ranks. -/
theorem no_rankedUp {n : Nat} {L : Nat → Nat} {E : Nat → Nat → Nat} {cyc : List Nat} (h : IsCyc n L E cyc) : ¬ RankedUp n L E := by
  rintro ⟨rk, hr⟩
  have hpos := h.ne
  have edge : ∀ u v, u ∈ cyc → Edge L E u v → rk u < rk v := by
    rintro u v hu ⟨c, hc, rfl⟩
    exact hr u (h.lt u hu) c hc
  have up : ∀ i (hi : i < cyc.length), rk cyc[0] ≤ rk cyc[i] := by
    intro i
    induction i with
    | zero => intro _; exact Nat.le_refl _
    | succ i ih =>
      intro hi
      have h1 := ih (by omega)
      have h2 := edge cyc[i] cyc[i + 1] (List.getElem_mem _) (h.step i _ _ (List.getElem?_eq_getElem _) (List.getElem?_eq_getElem _))
      omega
  have h1 := up (cyc.length - 1) (by omega)
  have h2 := edge cyc[cyc.length - 1] cyc[0] (List.getElem_mem _) (h.last _ _ (List.getElem?_eq_getElem _) (List.getElem?_eq_getElem _))
  omega

/-! ### findCycle: a search in depth -/

/-- WHAT HOLDS AT THE SEARCH's HEAD: 'st': 0 unseen, 1 on the path, 2 done; 'path': each node with the number of its edges that are behind us, the top last. -/
structure Dfs (n : Nat) (L : Nat → Nat) (E : Nat → Nat → Nat) (root : Nat) (st : Nat → Nat) (path : List (Nat × Nat)) : Prop where
  nodup : (path.map Prod.fst).Nodup
  on : ∀ v, v < n → (st v = 1 ↔ v ∈ path.map Prod.fst)
  st2 : ∀ v, v < n → st v ≤ 2
  lt : ∀ x, x ∈ path → x.1 < n ∧ x.2 ≤ L x.1
  chain : ∀ i x y, path[i]? = some x → path[i + 1]? = some y → 1 ≤ x.2 ∧ E x.1 (x.2 - 1) = y.1
  seen : ∀ i x, path[i]? = some x → ∀ c, c < x.2 → st (E x.1 c) = 2 ∨ (c + 1 = x.2 ∧ i + 1 < path.length)
  rank : ∃ rk : Nat → Nat, ∀ u, u < n → st u = 2 → ∀ c, c < L u → st (E u c) = 2 ∧ rk (E u c) < rk u
  below : ∀ v, v < root → v < n → st v = 2
  rootSeen : st root ≠ 0

/-- What holds at the outer loop's head. -/
structure Outer (n : Nat) (L : Nat → Nat) (E : Nat → Nat → Nat) (root : Nat) (st : Nat → Nat) : Prop where
  off : ∀ v, v < n → st v = 0 ∨ st v = 2
  rank : ∃ rk : Nat → Nat, ∀ u, u < n → st u = 2 → ∀ c, c < L u → st (E u c) = 2 ∧ rk (E u c) < rk u
  below : ∀ v, v < root → v < n → st v = 2

theorem outer_start (n : Nat) (L : Nat → Nat) (E : Nat → Nat → Nat) : Outer n L E 0 (fun _ => 0) :=
  ⟨fun _ _ => .inl rfl, ⟨fun _ => 0, fun u _ h => by simp at h⟩, fun v hv => by omega⟩

theorem outer_done {n : Nat} {L : Nat → Nat} {E : Nat → Nat → Nat} {st : Nat → Nat} (h : Outer n L E n st) : Ranked n L E := by
  obtain ⟨rk, hr⟩ := h.rank
  exact ⟨rk, fun u hu c hc => (hr u hu (h.below u hu hu) c hc).2⟩

theorem outer_skip {n : Nat} {L : Nat → Nat} {E : Nat → Nat → Nat} {st : Nat → Nat} {root : Nat} (h : Outer n L E root st) (hs : st root ≠ 0) : Outer n L E (root + 1) st := by
  refine ⟨h.off, h.rank, fun v hv hn => ?_⟩
  by_cases e : v = root
  · subst e
    rcases h.off v hn with h0 | h2
    · exact absurd h0 hs
    · exact h2
  · exact h.below v (by omega) hn

theorem dfs_start {n : Nat} {L : Nat → Nat} {E : Nat → Nat → Nat} {st : Nat → Nat} {root : Nat} (h : Outer n L E root st) (hr : root < n) (hs : st root = 0) : Dfs n L E root (upd st root 1) [(root, 0)] := by
  obtain ⟨rk, hrk⟩ := h.rank
  refine ⟨by simp, fun v hv => ?_, fun v hv => ?_, ?_, ?_, ?_, ⟨rk, fun u hu h2 c hc => ?_⟩, fun v hv hn => ?_, by simp [upd_same]⟩
  · by_cases e : v = root
    · subst e; simp [upd_same]
    · rw [upd_other _ _ _ _ e]
      rcases h.off v hv with h0 | h2 <;> simp [*]
  · by_cases e : v = root
    · subst e; simp [upd_same]
    · rw [upd_other _ _ _ _ e]
      rcases h.off v hv with h0 | h2 <;> simp [*]
  · intro x hx; simp at hx; subst hx; exact ⟨hr, Nat.zero_le _⟩
  · intro i x y _ hy; simp at hy
  · intro i x hx c hc
    match i, hx with
    | 0, hx => simp at hx; subst hx; simp at hc
  · by_cases e : u = root
    · subst e; simp [upd_same] at h2
    · rw [upd_other _ _ _ _ e] at h2
      obtain ⟨a, b⟩ := hrk u hu h2 c hc
      refine ⟨?_, b⟩
      by_cases e' : E u c = root
      · rw [e'] at a; omega
      · rw [upd_other _ _ _ _ e']; exact a
  · rw [upd_other _ _ _ _ (by omega)]; exact h.below v hv hn

/-- The path is empty: the root is done. -/
theorem dfs_end {n : Nat} {L : Nat → Nat} {E : Nat → Nat → Nat} {st : Nat → Nat} {root : Nat} (h : Dfs n L E root st []) : Outer n L E (root + 1) st := by
  have off : ∀ v, v < n → st v = 0 ∨ st v = 2 := fun v hv => by
    have h1 := h.on v hv
    have h2 := h.st2 v hv
    simp at h1
    omega
  refine ⟨off, h.rank, fun v hv hn => ?_⟩
  by_cases e : v = root
  · subst e
    have := off v hn
    have := h.rootSeen
    omega
  · exact h.below v (by omega) hn

theorem getElem?_snoc {α : Type} (p : List α) (x : α) (i : Nat) : (p ++ [x])[i]? = if i = p.length then some x else p[i]? := by
  rw [List.getElem?_append]
  by_cases h : i < p.length
  · rw [if_pos h, if_neg (by omega)]
  · rw [if_neg h]
    by_cases e : i = p.length
    · subst e; simp
    · rw [if_neg e, List.getElem?_eq_none (by simp; omega), List.getElem?_eq_none (by omega)]

/-- All edges of the top are behind us: it is done. -/
theorem dfs_pop {n : Nat} {L : Nat → Nat} {E : Nat → Nat → Nat} {st : Nat → Nat} {root v e : Nat} {p : List (Nat × Nat)} (h : Dfs n L E root st (p ++ [(v, e)])) (he : e = L v) : Dfs n L E root (upd st v 2) p := by
  subst he
  have hvn := (h.lt (v, L v) (by simp)).1
  simp only at hvn
  have nd := h.nodup
  simp only [List.map_append, List.map_cons, List.map_nil, List.nodup_append] at nd
  obtain ⟨nd1, _, nd2⟩ := nd
  have hvp : v ∉ p.map Prod.fst := fun hm => nd2 v hm v (by simp) rfl
  have alldone : ∀ c, c < L v → st (E v c) = 2 := fun c hc => by
    rcases h.seen p.length (v, L v) (by simp) c hc with h2 | ⟨_, hl⟩
    · exact h2
    · simp at hl
  have keep : ∀ u, st u = 2 → upd st v 2 u = 2 := fun u hu => by
    by_cases e : u = v
    · subst e; exact upd_same _ _ _
    · rw [upd_other _ _ _ _ e]; exact hu
  have hst1 : st v = 1 := (h.on v hvn).2 (by simp)
  refine ⟨nd1, fun u hu => ?_, fun u hu => ?_, fun x hx => h.lt x (by simp [hx]), fun i x y hx hy => ?_, fun i x hx c hc => ?_, ?_, fun u hu hn => keep u (h.below u hu hn), ?_⟩
  · by_cases e : u = v
    · subst e; rw [upd_same]; exact ⟨fun h => by omega, fun hm => absurd hm hvp⟩
    · rw [upd_other _ _ _ _ e]
      have := h.on u hu
      simp [e] at this
      simpa using this
  · by_cases e : u = v
    · subst e; rw [upd_same]; omega
    · rw [upd_other _ _ _ _ e]; exact h.st2 u hu
  · have l1 : i < p.length := (List.getElem?_eq_some_iff.1 hx).1
    have l2 : i + 1 < p.length := (List.getElem?_eq_some_iff.1 hy).1
    exact h.chain i x y (by rw [getElem?_snoc, if_neg (by omega)]; exact hx) (by rw [getElem?_snoc, if_neg (by omega)]; exact hy)
  · have l1 : i < p.length := (List.getElem?_eq_some_iff.1 hx).1
    rcases h.seen i x (by rw [getElem?_snoc, if_neg (by omega)]; exact hx) c hc with h2 | ⟨h2, h3⟩
    · exact .inl (keep _ h2)
    · by_cases l2 : i + 1 < p.length
      · exact .inr ⟨h2, l2⟩
      · left
        have hch := (h.chain i x (v, L v) (by rw [getElem?_snoc, if_neg (by omega)]; exact hx) (by rw [getElem?_snoc, if_pos (by omega)])).2
        have : c = x.2 - 1 := by omega
        rw [this, hch]; exact upd_same _ _ _
  · obtain ⟨rk, hrk⟩ := h.rank
    -- v's rank: above all ranks of its successors
    have bound : ∀ m, ∃ M, ∀ c, c < m → rk (E v c) < M := fun m => by
      induction m with
      | zero => exact ⟨0, fun c hc => by omega⟩
      | succ m ih =>
        obtain ⟨M, hM⟩ := ih
        refine ⟨M + rk (E v m) + 1, fun c hc => ?_⟩
        by_cases e : c = m
        · subst e; omega
        · have := hM c (by omega); omega
    obtain ⟨M, hM⟩ := bound (L v)
    refine ⟨upd rk v M, fun u hu h2 c hc => ?_⟩
    by_cases e : u = v
    · subst e
      have hd := alldone c hc
      have hne : E u c ≠ u := fun hh => by rw [hh] at hd; omega
      refine ⟨keep _ hd, ?_⟩
      rw [upd_same, upd_other _ _ _ _ hne]; exact hM c hc
    · rw [upd_other _ _ _ _ e] at h2
      obtain ⟨a, b⟩ := hrk u hu h2 c hc
      have hne : E u c ≠ v := fun hh => by rw [hh] at a; omega
      refine ⟨keep _ a, ?_⟩
      rw [upd_other _ _ _ _ hne, upd_other _ _ _ _ e]; exact b
  · by_cases e : root = v
    · subst e; rw [upd_same]; omega
    · rw [upd_other _ _ _ _ e]; exact h.rootSeen

/-- The next edge leads to a node that is done. -/
theorem dfs_skip {n : Nat} {L : Nat → Nat} {E : Nat → Nat → Nat} {st : Nat → Nat} {root v e : Nat} {p : List (Nat × Nat)} (h : Dfs n L E root st (p ++ [(v, e)])) (he : e < L v) (hs : st (E v e) = 2) : Dfs n L E root st (p ++ [(v, e + 1)]) := by
  have em : (p ++ [(v, e + 1)]).map Prod.fst = (p ++ [(v, e)]).map Prod.fst := by simp
  refine ⟨by rw [em]; exact h.nodup, fun u hu => by rw [em]; exact h.on u hu, h.st2, fun x hx => ?_, fun i x y hx hy => ?_, fun i x hx c hc => ?_, h.rank, h.below, h.rootSeen⟩
  · simp at hx
    rcases hx with hx | rfl
    · exact h.lt x (by simp [hx])
    · exact ⟨(h.lt (v, e) (by simp)).1, he⟩
  · rw [getElem?_snoc] at hx hy
    by_cases e1 : i + 1 = p.length
    · rw [if_neg (by omega)] at hx
      rw [if_pos e1] at hy
      simp only [Option.some.injEq] at hy
      subst hy
      exact h.chain i x (v, e) (by rw [getElem?_snoc, if_neg (by omega)]; exact hx) (by rw [getElem?_snoc, if_pos e1])
    · rw [if_neg e1] at hy
      have l2 : i + 1 < p.length := (List.getElem?_eq_some_iff.1 hy).1
      rw [if_neg (by omega)] at hx
      exact h.chain i x y (by rw [getElem?_snoc, if_neg (by omega)]; exact hx) (by rw [getElem?_snoc, if_neg (by omega)]; exact hy)
  · rw [getElem?_snoc] at hx
    by_cases e1 : i = p.length
    · rw [if_pos e1] at hx
      simp only [Option.some.injEq] at hx
      subst hx
      simp only at hc ⊢
      by_cases e2 : c = e
      · subst e2; exact .inl hs
      · rcases h.seen i (v, e) (by rw [getElem?_snoc, if_pos e1]) c (by simp only; omega) with h2 | ⟨_, h3⟩
        · exact .inl h2
        · simp at h3; omega
    · rw [if_neg e1] at hx
      rcases h.seen i x (by rw [getElem?_snoc, if_neg e1]; exact hx) c hc with h2 | ⟨h2, h3⟩
      · exact .inl h2
      · exact .inr ⟨h2, by simpa using h3⟩

/-- The next edge leads to a node that has not been seen: it goes onto the path. -/
theorem dfs_push {n : Nat} {L : Nat → Nat} {E : Nat → Nat → Nat} (hE : ∀ u, u < n → ∀ c, c < L u → E u c < n) {st : Nat → Nat} {root v e : Nat} {p : List (Nat × Nat)} (h : Dfs n L E root st (p ++ [(v, e)])) (he : e < L v) (hs : st (E v e) = 0) :
    Dfs n L E root (upd st (E v e) 1) ((p ++ [(v, e + 1)]) ++ [(E v e, 0)]) := by
  have hvn := (h.lt (v, e) (by simp)).1
  simp only at hvn
  have hxn : E v e < n := hE v hvn e he
  have hxp : E v e ∉ (p ++ [(v, e)]).map Prod.fst := fun hm => by have := (h.on _ hxn).2 hm; omega
  have em : (p ++ [(v, e + 1)]).map Prod.fst = (p ++ [(v, e)]).map Prod.fst := by simp
  have two : ∀ u, st u = 2 → upd st (E v e) 1 u = 2 := fun u hu => by
    rw [upd_other _ _ _ _ (fun hh => by rw [hh] at hu; omega)]; exact hu
  refine ⟨?_, fun u hu => ?_, fun u hu => ?_, fun x hx => ?_, fun i x y hx hy => ?_, fun i x hx c hc => ?_, ?_, fun u hu hn => two u (h.below u hu hn), ?_⟩
  · rw [List.map_append, em, List.nodup_append]
    refine ⟨h.nodup, by simp, fun a ha b hb => ?_⟩
    simp at hb
    subst hb
    exact fun hh => hxp (hh ▸ ha)
  · rw [List.map_append, em]
    by_cases e1 : u = E v e
    · subst e1; rw [upd_same]; simp
    · rw [upd_other _ _ _ _ e1, h.on u hu]
      rw [List.mem_append]
      simp [e1]
  · by_cases e1 : u = E v e
    · subst e1; rw [upd_same]; omega
    · rw [upd_other _ _ _ _ e1]; exact h.st2 u hu
  · rw [List.mem_append, List.mem_append] at hx
    rcases hx with (hx | hx) | hx
    · exact h.lt x (by simp [hx])
    · simp at hx; subst hx; exact ⟨hvn, he⟩
    · simp at hx; subst hx; exact ⟨hxn, Nat.zero_le _⟩
  · have len1 : (p ++ [(v, e + 1)]).length = p.length + 1 := by simp
    rw [getElem?_snoc, len1] at hx hy
    by_cases e1 : i + 1 = p.length + 1
    · rw [if_neg (by omega), getElem?_snoc, if_pos (by omega)] at hx
      rw [if_pos e1] at hy
      simp only [Option.some.injEq] at hx hy
      subst hx; subst hy
      exact ⟨by simp, by simp⟩
    · rw [if_neg e1] at hy
      have l2 : i + 1 < (p ++ [(v, e + 1)]).length := (List.getElem?_eq_some_iff.1 hy).1
      rw [len1] at l2
      rw [if_neg (by omega), getElem?_snoc, if_neg (by omega)] at hx
      rw [getElem?_snoc] at hy
      by_cases e2 : i + 1 = p.length
      · rw [if_pos e2] at hy
        simp only [Option.some.injEq] at hy
        subst hy
        exact h.chain i x (v, e) (by rw [getElem?_snoc, if_neg (by omega)]; exact hx) (by rw [getElem?_snoc, if_pos e2])
      · rw [if_neg e2] at hy
        exact h.chain i x y (by rw [getElem?_snoc, if_neg (by omega)]; exact hx) (by rw [getElem?_snoc, if_neg (by omega)]; exact hy)
  · have len1 : (p ++ [(v, e + 1)]).length = p.length + 1 := by simp
    rw [getElem?_snoc, len1] at hx
    by_cases e1 : i = p.length + 1
    · rw [if_pos e1] at hx
      simp only [Option.some.injEq] at hx
      subst hx
      simp at hc
    · rw [if_neg e1, getElem?_snoc] at hx
      by_cases e2 : i = p.length
      · rw [if_pos e2] at hx
        simp only [Option.some.injEq] at hx
        subst hx
        simp only at hc ⊢
        by_cases e3 : c = e
        · subst e3; exact .inr ⟨rfl, by simp; omega⟩
        · rcases h.seen i (v, e) (by rw [getElem?_snoc, if_pos e2]) c (by simp only; omega) with h2 | ⟨_, h3⟩
          · exact .inl (two _ h2)
          · simp at h3; omega
      · rw [if_neg e2] at hx
        rcases h.seen i x (by rw [getElem?_snoc, if_neg e2]; exact hx) c hc with h2 | ⟨h2, h3⟩
        · exact .inl (two _ h2)
        · exact .inr ⟨h2, by simp at h3 ⊢; omega⟩
  · obtain ⟨rk, hrk⟩ := h.rank
    refine ⟨rk, fun u hu h2 c hc => ?_⟩
    by_cases e1 : u = E v e
    · subst e1; rw [upd_same] at h2; omega
    · rw [upd_other _ _ _ _ e1] at h2
      obtain ⟨a, b⟩ := hrk u hu h2 c hc
      exact ⟨two _ a, b⟩
  · by_cases e1 : root = E v e
    · rw [← e1, upd_same]; omega
    · rw [upd_other _ _ _ _ e1]; exact h.rootSeen

/-- The next edge leads to a node of the path: from there on the path is a cycle. -/
theorem dfs_cycle {n : Nat} {L : Nat → Nat} {E : Nat → Nat → Nat} {st : Nat → Nat} {root v e s : Nat} {p : List (Nat × Nat)} (h : Dfs n L E root st (p ++ [(v, e)])) (he : e < L v)
    (hs : ((p ++ [(v, e + 1)]).map Prod.fst)[s]? = some (E v e)) : IsCyc n L E (((p ++ [(v, e + 1)]).map Prod.fst).drop s) := by
  have em : (p ++ [(v, e + 1)]).map Prod.fst = (p ++ [(v, e)]).map Prod.fst := by simp
  have hsl : s < ((p ++ [(v, e + 1)]).map Prod.fst).length := (List.getElem?_eq_some_iff.1 hs).1
  refine ⟨by rw [List.length_drop]; omega, ?_, fun u hu => ?_, fun i a b ha hb => ?_, fun a b ha hb => ?_⟩
  · exact List.Nodup.sublist (List.drop_sublist _ _) (by rw [em]; exact h.nodup)
  · have hm := List.mem_of_mem_drop hu
    rw [em] at hm
    obtain ⟨x, hx, rfl⟩ := List.mem_map.1 hm
    exact (h.lt x hx).1
  · rw [em] at ha hb
    rw [List.getElem?_drop, List.getElem?_map] at ha hb
    obtain ⟨x, hx, rfl⟩ := Option.map_eq_some_iff.1 ha
    obtain ⟨y, hy, rfl⟩ := Option.map_eq_some_iff.1 hb
    obtain ⟨h1, h2⟩ := h.chain (s + i) x y hx hy
    have hx2 := (h.lt x (List.mem_of_getElem? hx)).2
    exact ⟨x.2 - 1, by omega, h2⟩
  · rw [List.getElem?_drop, show s + 0 = s from rfl, hs] at hb
    simp only [Option.some.injEq] at hb
    subst hb
    rw [List.getElem?_drop, List.length_drop, em, List.getElem?_map] at ha
    have ei : s + (((p ++ [(v, e)]).map Prod.fst).length - s - 1) = p.length := by
      rw [em] at hsl
      simp at hsl ⊢
      omega
    rw [ei, getElem?_snoc, if_pos rfl] at ha
    simp at ha
    subst ha
    exact ⟨e, he, rfl⟩

/-- A node of the path has a place there. -/
theorem dfs_place {n : Nat} {L : Nat → Nat} {E : Nat → Nat → Nat} {st : Nat → Nat} {root v e x : Nat} {p : List (Nat × Nat)} (h : Dfs n L E root st (p ++ [(v, e)])) (hx : x < n) (hs : st x = 1) : x ∈ (p ++ [(v, e + 1)]).map Prod.fst := by
  have em : (p ++ [(v, e + 1)]).map Prod.fst = (p ++ [(v, e)]).map Prod.fst := by simp
  rw [em]; exact (h.on x hx).1 hs

theorem dfs_len {n : Nat} {L : Nat → Nat} {E : Nat → Nat → Nat} {st : Nat → Nat} {root : Nat} {p : List (Nat × Nat)} (h : Dfs n L E root st p) : p.length ≤ n := by
  have := List.Nodup.length_le_of_subset (l₂ := List.range n) h.nodup (fun v hv => List.mem_range.2 (by obtain ⟨x, hx, rfl⟩ := List.mem_map.1 hv; exact (h.lt x hx).1))
  simpa using this

/-! ### How many rounds the search may still take -/
def sumTo (f : Nat → Nat) : Nat → Nat
  | 0 => 0
  | k + 1 => sumTo f k + f k
def unseenW (L st : Nat → Nat) : Nat → Nat := fun v => if st v = 0 then L v + 2 else 0
def pathW (L : Nat → Nat) : List (Nat × Nat) → Nat
  | [] => 0
  | x :: r => (L x.1 - x.2 + 1) + pathW L r
def left (n : Nat) (L st : Nat → Nat) (p : List (Nat × Nat)) : Nat := sumTo (unseenW L st) n + pathW L p

theorem sumTo_congr {f g : Nat → Nat} (n : Nat) (h : ∀ i, i < n → f i = g i) : sumTo f n = sumTo g n := by
  induction n with
  | zero => rfl
  | succ n ih => simp only [sumTo]; rw [ih (fun i hi => h i (by omega)), h n (by omega)]
theorem sumTo_split {f g : Nat → Nat} (n x : Nat) (hx : x < n) (h : ∀ i, i < n → i ≠ x → f i = g i) : sumTo f n + g x = sumTo g n + f x := by
  induction n with
  | zero => omega
  | succ n ih =>
    simp only [sumTo]
    by_cases e : x = n
    · subst e
      have := sumTo_congr x (f := f) (g := g) (fun i hi => h i (by omega) (by omega))
      omega
    · have := ih (by omega) (fun i hi hne => h i (by omega) hne)
      have := h n (by omega) (by omega)
      omega
theorem pathW_append (L : Nat → Nat) (p q : List (Nat × Nat)) : pathW L (p ++ q) = pathW L p + pathW L q := by
  induction p with
  | nil => simp [pathW]
  | cons x r ih => simp only [List.cons_append, pathW, ih]; omega
theorem left_pop {n : Nat} {L : Nat → Nat} {E : Nat → Nat → Nat} {st : Nat → Nat} {root v e : Nat} {p : List (Nat × Nat)} (h : Dfs n L E root st (p ++ [(v, e)])) : left n L (upd st v 2) p < left n L st (p ++ [(v, e)]) := by
  have hvn := (h.lt (v, e) (by simp)).1
  simp only at hvn
  have hst1 : st v = 1 := (h.on v hvn).2 (by simp)
  unfold left
  rw [pathW_append]
  have : sumTo (unseenW L (upd st v 2)) n = sumTo (unseenW L st) n := sumTo_congr n (fun i _ => by
    by_cases e : i = v
    · subst e; simp [unseenW, upd_same, hst1]
    · simp [unseenW, upd_other _ _ _ _ e])
  rw [this]
  simp only [pathW]
  omega
theorem left_skip {n : Nat} {L st : Nat → Nat} {v e : Nat} {p : List (Nat × Nat)} (he : e < L v) : left n L st (p ++ [(v, e + 1)]) < left n L st (p ++ [(v, e)]) := by
  unfold left
  rw [pathW_append, pathW_append]
  simp only [pathW]
  omega
theorem left_push {n : Nat} {L st : Nat → Nat} {v e x : Nat} {p : List (Nat × Nat)} (he : e < L v) (hx : x < n) (hs : st x = 0) : left n L (upd st x 1) ((p ++ [(v, e + 1)]) ++ [(x, 0)]) < left n L st (p ++ [(v, e)]) := by
  unfold left
  rw [pathW_append, pathW_append, pathW_append]
  have := sumTo_split (f := unseenW L (upd st x 1)) (g := unseenW L st) n x hx (fun i _ hne => by simp [unseenW, upd_other _ _ _ _ hne])
  have h1 : unseenW L (upd st x 1) x = 0 := by simp [unseenW, upd_same]
  have h2 : unseenW L st x = L x + 2 := by simp [unseenW, hs]
  simp only [pathW]
  omega

/-! ### Kahn's algorithm -/
/-- How many of the edges lo .. hi - 1 of node u lead to v. -/
def numE (E : Nat → Nat → Nat) (u v lo : Nat) : Nat → Nat
  | 0 => 0
  | h + 1 => numE E u v lo h + if lo ≤ h ∧ E u h = v then 1 else 0
/-- How many edges lead to v: of node u those from lo u to hi u. -/
def indeg (n : Nat) (E : Nat → Nat → Nat) (lo hi : Nat → Nat) (v : Nat) : Nat := sumTo (fun u => numE E u v (lo u) (hi u)) n

theorem numE_le (E : Nat → Nat → Nat) (u v lo h : Nat) : numE E u v lo h ≤ h := by
  induction h with
  | zero => exact Nat.le_refl _
  | succ h ih => simp only [numE]; split <;> omega
theorem numE_none (E : Nat → Nat → Nat) (u v lo h : Nat) (hh : h ≤ lo) : numE E u v lo h = 0 := by
  induction h with
  | zero => rfl
  | succ h ih => simp only [numE]; rw [ih (by omega), if_neg (by omega)]
theorem numE_lo (E : Nat → Nat → Nat) (u v lo h : Nat) (hl : lo < h) : numE E u v lo h = numE E u v (lo + 1) h + if E u lo = v then 1 else 0 := by
  induction h with
  | zero => omega
  | succ h ih =>
    simp only [numE]
    by_cases e : lo = h
    · subst e
      rw [numE_none E u v lo lo (Nat.le_refl _), numE_none E u v (lo + 1) lo (by omega), if_neg (show ¬ (lo + 1 ≤ lo ∧ E u lo = v) from fun hh => by omega)]
      simp
    · have h1 := ih (by omega)
      by_cases e2 : E u h = v
      · rw [if_pos (show lo ≤ h ∧ E u h = v from ⟨by omega, e2⟩), if_pos (show lo + 1 ≤ h ∧ E u h = v from ⟨by omega, e2⟩)]; omega
      · rw [if_neg (show ¬ (lo ≤ h ∧ E u h = v) from fun hh => e2 hh.2), if_neg (show ¬ (lo + 1 ≤ h ∧ E u h = v) from fun hh => e2 hh.2)]; omega
theorem numE_zero (E : Nat → Nat → Nat) (u v lo h : Nat) : numE E u v lo h = 0 ↔ ∀ c, lo ≤ c → c < h → E u c ≠ v := by
  induction h with
  | zero => simp [numE]
  | succ h ih =>
    simp only [numE]
    constructor
    · intro hz c h1 h2 h3
      by_cases e : c = h
      · subst e; rw [if_pos ⟨h1, h3⟩] at hz; omega
      · exact (ih.1 (by omega)) c h1 (by omega) h3
    · intro hall
      rw [ih.2 (fun c h1 h2 => hall c h1 (by omega)), if_neg (fun hh => hall h hh.1 (by omega) hh.2)]
theorem sumTo_zero (f : Nat → Nat) (n : Nat) : sumTo f n = 0 ↔ ∀ i, i < n → f i = 0 := by
  induction n with
  | zero => simp [sumTo]
  | succ n ih =>
    simp only [sumTo]
    constructor
    · intro h i hi
      by_cases e : i = n
      · subst e; omega
      · exact ih.1 (by omega) i (by omega)
    · intro h
      rw [ih.2 (fun i hi => h i (by omega)), h n (by omega)]
theorem sumTo_le {f g : Nat → Nat} (n : Nat) (h : ∀ i, i < n → f i ≤ g i) : sumTo f n ≤ sumTo g n := by
  induction n with
  | zero => exact Nat.le_refl _
  | succ n ih => simp only [sumTo]; have := ih (fun i hi => h i (by omega)); have := h n (by omega); omega
theorem indeg_zero (n : Nat) (E : Nat → Nat → Nat) (lo hi : Nat → Nat) (v : Nat) : indeg n E lo hi v = 0 ↔ ∀ u, u < n → ∀ c, lo u ≤ c → c < hi u → E u c ≠ v := by
  unfold indeg
  rw [sumTo_zero]
  exact ⟨fun h u hu => (numE_zero _ _ _ _ _).1 (h u hu), fun h u hu => (numE_zero _ _ _ _ _).2 (h u hu)⟩
/-- One edge more is counted. -/
theorem indeg_more (n : Nat) (E : Nat → Nat → Nat) (hi : Nat → Nat) (u v : Nat) (hu : u < n) :
    indeg n E (fun _ => 0) (upd hi u (hi u + 1)) v = indeg n E (fun _ => 0) hi v + if E u (hi u) = v then 1 else 0 := by
  simp only [indeg]
  have := sumTo_split (f := fun x => numE E x v 0 (upd hi u (hi u + 1) x)) (g := fun x => numE E x v 0 (hi x)) n u hu (fun i _ hne => by simp [upd_other _ _ _ _ hne])
  simp only [upd_same, numE, Nat.zero_le, true_and] at this
  omega
/-- One edge is taken away. -/
theorem indeg_less (n : Nat) (E : Nat → Nat → Nat) (lo hi : Nat → Nat) (u v : Nat) (hu : u < n) (hl : lo u < hi u) :
    indeg n E lo hi v = indeg n E (upd lo u (lo u + 1)) hi v + if E u (lo u) = v then 1 else 0 := by
  unfold indeg
  have := sumTo_split (f := fun x => numE E x v (upd lo u (lo u + 1) x) (hi x)) (g := fun x => numE E x v (lo x) (hi x)) n u hu (fun i _ hne => by simp [upd_other _ _ _ _ hne])
  simp only [upd_same] at this
  have h2 := numE_lo E u v (lo u) (hi u) hl
  omega
theorem indeg_le (n : Nat) (E : Nat → Nat → Nat) (lo hi : Nat → Nat) (v : Nat) : indeg n E lo hi v ≤ sumTo hi n := sumTo_le n (fun _ _ => numE_le _ _ _ _ _)

/-- WHAT HOLDS IN THE MAIN LOOP: 'lo u': so many edges of u are taken away; 'q': the queue; 'h': its head. -/
structure Kahn (n : Nat) (L : Nat → Nat) (E : Nat → Nat → Nat) (lo : Nat → Nat) (q : List Nat) (h : Nat) : Prop where
  nodup : q.Nodup
  lt : ∀ v, v ∈ q → v < n
  iff : ∀ v, v < n → (v ∈ q ↔ indeg n E lo L v = 0)
  order : ∀ (p v : Nat), q[p]? = some v → ∀ u, u < n → ∀ c, c < L u → E u c = v → ∃ p', p' < p ∧ q[p']? = some u
  lo0 : ∀ u, u < n → 0 < lo u → ∃ p, p ≤ h ∧ q[p]? = some u
  full : ∀ (p u : Nat), p < h → q[p]? = some u → lo u = L u
  le : ∀ u, u < n → lo u ≤ L u
  fresh : ∀ (p u : Nat), h < p → q[p]? = some u → lo u = 0

/-- The queue of the nodes below i that no edge leads to. -/
structure Start (n : Nat) (L : Nat → Nat) (E : Nat → Nat → Nat) (q : List Nat) (i : Nat) : Prop where
  nodup : q.Nodup
  iff : ∀ v, v ∈ q ↔ v < i ∧ indeg n E (fun _ => 0) L v = 0
theorem start_zero (n : Nat) (L : Nat → Nat) (E : Nat → Nat → Nat) : Start n L E [] 0 := ⟨by simp, fun v => by simp⟩
theorem start_push {n : Nat} {L : Nat → Nat} {E : Nat → Nat → Nat} {q : List Nat} {i : Nat} (h : Start n L E q i) (h0 : indeg n E (fun _ => 0) L i = 0) : Start n L E (q ++ [i]) (i + 1) := by
  refine ⟨?_, fun v => ?_⟩
  · rw [List.nodup_append]
    refine ⟨h.nodup, by simp, fun a ha b hb => ?_⟩
    simp at hb
    have := ((h.iff a).1 ha).1
    omega
  · rw [List.mem_append, h.iff v]
    simp only [List.mem_singleton]
    constructor
    · rintro (⟨a, b⟩ | rfl)
      · exact ⟨by omega, b⟩
      · exact ⟨by omega, h0⟩
    · rintro ⟨a, b⟩
      by_cases e : v = i
      · exact .inr e
      · exact .inl ⟨by omega, b⟩
theorem start_skip {n : Nat} {L : Nat → Nat} {E : Nat → Nat → Nat} {q : List Nat} {i : Nat} (h : Start n L E q i) (h0 : indeg n E (fun _ => 0) L i ≠ 0) : Start n L E q (i + 1) := by
  refine ⟨h.nodup, fun v => ?_⟩
  rw [h.iff v]
  constructor
  · rintro ⟨a, b⟩; exact ⟨by omega, b⟩
  · rintro ⟨a, b⟩
    by_cases e : v = i
    · subst e; exact absurd b h0
    · exact ⟨by omega, b⟩
theorem start_len {n : Nat} {L : Nat → Nat} {E : Nat → Nat → Nat} {q : List Nat} {i : Nat} (h : Start n L E q i) : q.length ≤ i := by
  have := List.Nodup.length_le_of_subset (l₂ := List.range i) h.nodup (fun v hv => List.mem_range.2 ((h.iff v).1 hv).1)
  simpa using this
theorem kahn_start {n : Nat} {L : Nat → Nat} {E : Nat → Nat → Nat} {q : List Nat} (h : Start n L E q n) : Kahn n L E (fun _ => 0) q 0 := by
  refine ⟨h.nodup, fun v hv => ((h.iff v).1 hv).1, fun v hv => ?_, fun p v hp u hu c hc he => ?_, fun u _ h0 => by simp at h0, fun p u hp => by omega, fun u _ => Nat.zero_le _, fun _ _ _ _ => rfl⟩
  · rw [h.iff v]; simp [hv]
  · have h1 := ((h.iff v).1 (List.mem_of_getElem? hp)).2
    exact absurd he ((indeg_zero _ _ _ _ _).1 h1 u hu c (Nat.zero_le _) hc)
theorem kahn_len {n : Nat} {L : Nat → Nat} {E : Nat → Nat → Nat} {lo : Nat → Nat} {q : List Nat} {h : Nat} (k : Kahn n L E lo q h) : q.length ≤ n := by
  have := List.Nodup.length_le_of_subset (l₂ := List.range n) k.nodup (fun v hv => List.mem_range.2 (k.lt v hv))
  simpa using this
/-- Two places of the queue that hold one node are one. -/
theorem place_inj {q : List Nat} (nd : q.Nodup) {a b x : Nat} (ha : q[a]? = some x) (hb : q[b]? = some x) : a = b := by
  obtain ⟨la, ea⟩ := List.getElem?_eq_some_iff.1 ha
  obtain ⟨lb, eb⟩ := List.getElem?_eq_some_iff.1 hb
  have pw := List.pairwise_iff_getElem.1 nd
  rcases Nat.lt_trichotomy a b with hlt | he | hlt
  · exact absurd (ea.trans eb.symm) (pw a b la lb hlt)
  · exact he
  · exact absurd (eb.trans ea.symm) (pw b a lb la hlt)
/-- The head's edges are all taken away. -/
theorem kahn_next {n : Nat} {L : Nat → Nat} {E : Nat → Nat → Nat} {lo : Nat → Nat} {q : List Nat} {h u : Nat} (k : Kahn n L E lo q h) (hq : q[h]? = some u) (hl : lo u = L u) : Kahn n L E lo q (h + 1) := by
  refine ⟨k.nodup, k.lt, k.iff, k.order, fun v hv h0 => ?_, fun p v hp hv => ?_, k.le, fun p v hp => k.fresh p v (by omega)⟩
  · obtain ⟨p, a, b⟩ := k.lo0 v hv h0; exact ⟨p, by omega, b⟩
  · by_cases e : p = h
    · subst e; rw [hq] at hv; simp only [Option.some.injEq] at hv; subst hv; exact hl
    · exact k.full p v (by omega) hv
/-- Before the edge is taken away its end is not in the queue: it is counted. -/
theorem kahn_pos {n : Nat} {L : Nat → Nat} {E : Nat → Nat → Nat} {lo : Nat → Nat} {u : Nat} (hu : u < n) (hl : lo u < L u) : 0 < indeg n E lo L (E u (lo u)) := by
  have := indeg_less n E lo L u (E u (lo u)) hu hl
  simp at this
  omega
/-- An edge is taken away, and its end is still led to. -/
theorem kahn_keep {n : Nat} {L : Nat → Nat} {E : Nat → Nat → Nat} {lo : Nat → Nat} {q : List Nat} {h u : Nat} (k : Kahn n L E lo q h) (hq : q[h]? = some u) (hl : lo u < L u) (h0 : indeg n E (upd lo u (lo u + 1)) L (E u (lo u)) ≠ 0) : Kahn n L E (upd lo u (lo u + 1)) q h := by
  have hu : u < n := k.lt u (List.mem_of_getElem? hq)
  refine ⟨k.nodup, k.lt, fun v hv => ?_, k.order, fun v hv hp => ?_, fun p v hp hv => ?_, fun v hv => ?_, fun p v hp hv => ?_⟩
  · rw [k.iff v hv]
    have h1 := indeg_less n E lo L u v hu hl
    by_cases e : E u (lo u) = v
    · subst e; simp at h1; omega
    · rw [if_neg e] at h1; omega
  · by_cases e : v = u
    · subst e; exact ⟨h, Nat.le_refl _, hq⟩
    · rw [upd_other _ _ _ _ e] at hp; exact k.lo0 v hv hp
  · have hne : v ≠ u := fun e => by subst e; have := place_inj k.nodup hv hq; omega
    rw [upd_other _ _ _ _ hne]; exact k.full p v hp hv
  · by_cases e : v = u
    · subst e; rw [upd_same]; omega
    · rw [upd_other _ _ _ _ e]; exact k.le v hv
  · have hne : v ≠ u := fun e => by subst e; have := place_inj k.nodup hv hq; omega
    rw [upd_other _ _ _ _ hne]; exact k.fresh p v hp hv
/-- An edge is taken away, and it was the last that led to its end: the end goes into the queue. -/
theorem kahn_push {n : Nat} {L : Nat → Nat} {E : Nat → Nat → Nat} (hE : ∀ u, u < n → ∀ c, c < L u → E u c < n) {lo : Nat → Nat} {q : List Nat} {h u : Nat} (k : Kahn n L E lo q h) (hq : q[h]? = some u) (hl : lo u < L u) (h0 : indeg n E (upd lo u (lo u + 1)) L (E u (lo u)) = 0) :
    Kahn n L E (upd lo u (lo u + 1)) (q ++ [E u (lo u)]) h := by
  have hu : u < n := k.lt u (List.mem_of_getElem? hq)
  have hhl : h < q.length := (List.getElem?_eq_some_iff.1 hq).1
  have hx : E u (lo u) < n := hE u hu _ hl
  have hpos := kahn_pos (E := E) hu hl
  have hxq : E u (lo u) ∉ q := fun hm => by have := (k.iff _ hx).1 hm; omega
  have old : ∀ p v, p < q.length → (q ++ [E u (lo u)])[p]? = some v → q[p]? = some v := fun p v hp hv => by rw [getElem?_snoc, if_neg (by omega)] at hv; exact hv
  have new : ∀ p v, q[p]? = some v → (q ++ [E u (lo u)])[p]? = some v := fun p v hv => by
    have := (List.getElem?_eq_some_iff.1 hv).1
    rw [getElem?_snoc, if_neg (by omega)]; exact hv
  have loPos : ∀ v, v < n → 0 < upd lo u (lo u + 1) v → ∃ p, p ≤ h ∧ q[p]? = some v := fun v hv hp => by
    by_cases e : v = u
    · subst e; exact ⟨h, Nat.le_refl _, hq⟩
    · rw [upd_other _ _ _ _ e] at hp; exact k.lo0 v hv hp
  refine ⟨?_, fun v hv => ?_, fun v hv => ?_, fun p v hp w hw c hc he => ?_, fun v hv hp => ?_, fun p v hp hv => ?_, fun v hv => ?_, fun p v hp hv => ?_⟩
  · rw [List.nodup_append]
    refine ⟨k.nodup, by simp, fun a ha b hb => ?_⟩
    simp at hb
    subst hb
    exact fun hh => hxq (hh ▸ ha)
  · rw [List.mem_append] at hv
    rcases hv with hv | hv
    · exact k.lt v hv
    · simp at hv; subst hv; exact hx
  · rw [List.mem_append, k.iff v hv]
    have h1 := indeg_less n E lo L u v hu hl
    by_cases e : E u (lo u) = v
    · subst e; simp [h0]
    · rw [if_neg e] at h1
      have e' : ¬ v = E u (lo u) := fun hh => e hh.symm
      simp only [List.mem_singleton, e', or_false]
      omega
  · by_cases e : p = q.length
    · rw [getElem?_snoc, if_pos e] at hp
      simp only [Option.some.injEq] at hp
      have h3 := (indeg_zero _ _ _ _ _).1 h0 w hw c
      have h4 : c < upd lo u (lo u + 1) w := by
        rcases Nat.lt_or_ge c (upd lo u (lo u + 1) w) with hlt | hge
        · exact hlt
        · exact absurd (he.trans hp.symm) (h3 hge hc)
      obtain ⟨p', a, b⟩ := loPos w hw (by omega)
      exact ⟨p', by omega, new _ _ b⟩
    · rw [getElem?_snoc, if_neg e] at hp
      obtain ⟨p', a, b⟩ := k.order p v hp w hw c hc he
      exact ⟨p', a, new _ _ b⟩
  · obtain ⟨p, a, b⟩ := loPos v hv hp
    exact ⟨p, a, new _ _ b⟩
  · have hv' := old p v (by omega) hv
    have hne : v ≠ u := fun e => by subst e; have := place_inj k.nodup hv' hq; omega
    rw [upd_other _ _ _ _ hne]; exact k.full p v hp hv'
  · by_cases e : v = u
    · subst e; rw [upd_same]; omega
    · rw [upd_other _ _ _ _ e]; exact k.le v hv
  · by_cases e : p = q.length
    · rw [getElem?_snoc, if_pos e] at hv
      simp only [Option.some.injEq] at hv
      subst hv
      have hne : E u (lo u) ≠ u := fun hh => hxq (by rw [hh]; exact List.mem_of_getElem? hq)
      rw [upd_other _ _ _ _ hne]
      rcases Nat.eq_zero_or_pos (lo (E u (lo u))) with hz | hz
      · exact hz
      · obtain ⟨p', _, b⟩ := k.lo0 _ hx hz
        exact absurd (List.mem_of_getElem? b) hxq
    · rw [getElem?_snoc, if_neg e] at hv
      have hne : v ≠ u := fun e => by subst e; have := place_inj k.nodup hv hq; omega
      rw [upd_other _ _ _ _ hne]; exact k.fresh p v hp hv

/-- THE END, ranks at hand: every node is in the queue. -/
theorem kahn_all {n : Nat} {L : Nat → Nat} {E : Nat → Nat → Nat} {lo : Nat → Nat} {q : List Nat} (k : Kahn n L E lo q q.length) (hr : Ranked n L E) : q.length = n := by
  obtain ⟨rk, hrk⟩ := hr
  have bound : ∀ m, ∃ M, ∀ u, u < m → rk u ≤ M := fun m => by
    induction m with
    | zero => exact ⟨0, fun u hu => by omega⟩
    | succ m ih =>
      obtain ⟨M, hM⟩ := ih
      refine ⟨M + rk m, fun u hu => ?_⟩
      by_cases e : u = m
      · subst e; omega
      · have := hM u (by omega); omega
  obtain ⟨M, hM⟩ := bound n
  have all : ∀ d v, v < n → M - rk v ≤ d → v ∈ q := by
    intro d
    induction d with
    | zero =>
      intro v hv hd
      refine Classical.byContradiction fun hnq => ?_
      have hz : ¬ indeg n E lo L v = 0 := fun hz => hnq ((k.iff v hv).2 hz)
      rw [indeg_zero] at hz
      simp only [Classical.not_forall, Classical.not_not] at hz
      obtain ⟨u, hu, c, h1, h2, h3⟩ := hz
      have := hrk u hu c h2
      rw [h3] at this
      have := hM u hu
      omega
    | succ d ih =>
      intro v hv hd
      refine Classical.byContradiction fun hnq => ?_
      have hz : ¬ indeg n E lo L v = 0 := fun hz => hnq ((k.iff v hv).2 hz)
      rw [indeg_zero] at hz
      simp only [Classical.not_forall, Classical.not_not] at hz
      obtain ⟨u, hu, c, h1, h2, h3⟩ := hz
      have h4 := hrk u hu c h2
      rw [h3] at h4
      have h5 := hM u hu
      have huq := ih u hu (by omega)
      obtain ⟨p, hp, hpe⟩ := List.mem_iff_getElem.1 huq
      have := k.full p u hp (by rw [List.getElem?_eq_getElem hp, hpe])
      omega
  have h1 := kahn_len k
  have h2 := List.Nodup.length_le_of_subset (l₁ := List.range n) (l₂ := q) List.nodup_range (fun v hv => all _ v (List.mem_range.1 hv) (Nat.le_refl _))
  simp at h2
  omega

/-- THE END, every node in the queue: the queue's places are ranks. -/
theorem kahn_up {n : Nat} {L : Nat → Nat} {E : Nat → Nat → Nat} (hE : ∀ u, u < n → ∀ c, c < L u → E u c < n) {lo : Nat → Nat} {q : List Nat} {h : Nat} (k : Kahn n L E lo q h) (hn : q.length = n) : RankedUp n L E := by
  have all : ∀ v, v < n → v ∈ q := fun v hv => by
    refine Classical.byContradiction fun hnq => ?_
    have h1 := List.Nodup.length_le_of_subset (l₁ := v :: q) (l₂ := List.range n) (List.nodup_cons.2 ⟨hnq, k.nodup⟩) (fun u hu => by
      rcases List.mem_cons.1 hu with rfl | hu
      · exact List.mem_range.2 hv
      · exact List.mem_range.2 (k.lt u hu))
    simp at h1
    omega
  refine ⟨fun u => q.idxOf u, fun u hu c hc => ?_⟩
  have hv := hE u hu c hc
  have l1 := List.idxOf_lt_length_iff.2 (all _ hv)
  have l2 := List.idxOf_lt_length_iff.2 (all u hu)
  obtain ⟨p', a, b⟩ := k.order (q.idxOf (E u c)) (E u c) (by rw [List.getElem?_eq_getElem l1, List.getElem_idxOf]) u hu c hc rfl
  have := place_inj k.nodup b (show q[q.idxOf u]? = some u by rw [List.getElem?_eq_getElem l2, List.getElem_idxOf])
  show q.idxOf u < q.idxOf (E u c)
  omega

end Go.Proofs.Qxb6601949a.Fc
