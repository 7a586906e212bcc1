/- THE SCRIPT LAWS: the fold of 'stepP' says what the history says. No Go in it. -/
import Derived.Test.Qxb6601949aScModel
import Derived.Test.Qxb6601949aScRun
namespace Go.Proofs.Qxb6601949a.Sc
open Go.RowKit Go.Maps
set_option linter.unusedVariables false
set_option linter.unusedSimpArgs false

def nums (ds : List Dp) : List Nat := (numUp (idsOf ds) ds.length).2
def firsts (ds : List Dp) : List Nat := (numUp (idsOf ds) ds.length).1
def mpD (ds : List Dp) (j : Nat) : Mp := match ds[j]? with
  | some d => mpOf d
  | none => ⟨⟨#[]⟩, 0, [], [], 0⟩
theorem mpD_of {ds : List Dp} {j : Nat} {d : Dp} (h : ds[j]? = some d) : mpD ds j = mpOf d := by rw [mpD, h]

theorem numUp_succ (ids : List ByteArray) (k : Nat) : ∃ x, (numUp ids (k + 1)).2 = (numUp ids k).2 ++ [x] := by
  rw [numUp]; split <;> exact ⟨_, rfl⟩
theorem numUp_pre (ids : List ByteArray) (i : Nat) : ∀ k j, j < i → (numUp ids (i + k)).2[j]? = (numUp ids i).2[j]?
  | 0, _, _ => rfl
  | k + 1, j, h => by
    obtain ⟨x, hx⟩ := numUp_succ ids (i + k)
    rw [← Nat.add_assoc, hx, List.getElem?_append_left (by have := (numUp_len ids (i + k)).1; omega)]
    exact numUp_pre ids i k j h
theorem nums_at {ds : List Dp} {i j : Nat} (hi : i ≤ ds.length) (hj : j < i) : (nums ds)[j]? = (numUp (idsOf ds) i).2[j]? := by
  obtain ⟨k, hk⟩ := Nat.exists_eq_add_of_le hi
  rw [nums, hk]
  exact numUp_pre _ _ _ _ hj
theorem idsOf_len (ds : List Dp) : (idsOf ds).length = ds.length := by simp [idsOf]

theorem firstIdx_spec {ids : List ByteArray} {i : Nat} (hi : i < ids.length) : ids[firstIdx ids i]? = ids[i]? ∧ firstIdx ids i ≤ i ∧ ∀ j, j < firstIdx ids i → ids[j]? ≠ ids[i]? := by
  have hle := firstIdx_le ids hi
  unfold firstIdx at hle ⊢
  have hlt : ids.findIdx (fun x => some x == ids[i]?) < ids.length := by omega
  have h1 := List.findIdx_getElem (w := hlt)
  refine ⟨?_, hle, fun j hj => ?_⟩
  · rw [List.getElem?_eq_getElem hlt]
    simpa using h1
  · have h2 := List.not_of_lt_findIdx hj
    rw [List.getElem?_eq_getElem (by omega)]
    intro hh
    simp [hh] at h2

theorem idx_get {ms : List Mp} {x : ByteArray} {i : Nat} (h : idx ms x = some i) : ∃ m, ms[i]? = some m ∧ m.id = x := by
  unfold idx at h
  rw [List.findIdx?_eq_some_iff_getElem] at h
  obtain ⟨h1, h2, _⟩ := h
  exact ⟨_, List.getElem?_eq_getElem h1, by simpa using h2⟩

theorem plc_lt {l : List Nat} {m p : Nat} (h : plc l m = some p) : m < l.length := by
  unfold plc at h
  cases hh : l[m]? with
  | none => rw [hh] at h; cases h
  | some y => exact get_lt hh
theorem plc_put (l : List Nat) (m n : Nat) (m' : Nat) : plc ((grow l m).set m (n + 1)) m' = if m' = m then some n else plc l m' := by
  have hl : m < (grow l m).length := by rw [grow_length]; omega
  by_cases e : m' = m
  · subst e
    rw [if_pos rfl]
    exact plc_some (by rw [List.getElem?_set_self hl])
  · rw [if_neg e]
    unfold plc
    rw [List.getElem?_set_ne (fun h => e h.symm)]
    unfold grow
    by_cases h : m' < l.length
    · rw [List.getElem?_append_left h]
    · rw [List.getElem?_append_right (by omega), List.getElem?_eq_none (l := l) (by omega)]
      by_cases h2 : m' - l.length < m + 1 - l.length
      · rw [List.getElem?_replicate, if_pos h2]
      · rw [List.getElem?_replicate, if_neg h2]

theorem want_mem {ds : List Dp} {ns : List Nat} {us : List Bool} {q m : Nat} : ∀ {i : Nat}, m ∈ wantL ds ns us q i ↔ ∃ j d, j < i ∧ ds[j]? = some d ∧ d.log = (q : Int) ∧ us[j]? = some false ∧ ns[j]? = some m
  | 0 => by simp [wantL]
  | i + 1 => by
    rw [wantL, List.mem_append, want_mem (i := i)]
    constructor
    · rintro (⟨j, d, h1, h2⟩ | h)
      · exact ⟨j, d, by omega, h2⟩
      · unfold pickAt at h
        split at h
        · rename_i d n b hd hn hb
          split at h
          · rename_i hc
            rw [List.mem_singleton] at h
            subst h
            exact ⟨i, d, by omega, hd, hc.1, by rw [hb, hc.2], hn⟩
          · cases h
        · cases h
    · rintro ⟨j, d, h1, h2, h3, h4, h5⟩
      by_cases e : j = i
      · subst e
        right
        unfold pickAt
        rw [h2, h4, h5]
        simp [h3]
      · exact .inl ⟨j, d, by omega, h2, h3, h4, h5⟩

theorem dupL_get {ds : List Dp} {i : Nat} (h : i < ds.length) : (dupL ds)[i]? = some (dupAt ds i) := by simp [dupL, h]
theorem dupAt_iff {ds : List Dp} {i : Nat} : dupAt ds i = true ↔ ∃ j, j < i ∧ dk ds j = dk ds i := by
  unfold dupAt
  rw [List.any_eq_true]
  constructor
  · rintro ⟨j, h1, h2⟩; exact ⟨j, List.mem_range.1 h1, by simpa using h2⟩
  · rintro ⟨j, h1, h2⟩; exact ⟨j, List.mem_range.2 h1, by simpa using h2⟩
/-- The first of the lines that give this log this id is no repetition. -/
theorem dup_first {ds : List Dp} {i : Nat} : ∀ (n j : Nat), j ≤ n → j < i → dk ds j = dk ds i → ∃ j0, j0 ≤ j ∧ dk ds j0 = dk ds i ∧ dupAt ds j0 = false
  | n, j, hn, hj, h => by
    cases hd : dupAt ds j with
    | false => exact ⟨j, Nat.le_refl _, h, hd⟩
    | true =>
      obtain ⟨j1, h1, h2⟩ := dupAt_iff.1 hd
      match n, hn with
      | 0, hn => omega
      | n + 1, hn =>
        obtain ⟨j0, h3, h4, h5⟩ := dup_first n j1 (by omega) (by omega) (h2.trans h)
        exact ⟨j0, by omega, h4, h5⟩

structure Inv (lg : List Lp) (ds : List Dp) (i : Nat) (s : Ps) : Prop where
  msgs : s.msgs = (numUp (idsOf ds) i).1.map (mpD ds)
  idx : ∀ j x, j < i → (idsOf ds)[j]? = some x → idx s.msgs x = (nums ds)[j]?
  none : ∀ x, (∀ j, j < i → (idsOf ds)[j]? ≠ some x) → Sc.idx s.msgs x = none
  fst : ∀ j n, j < i → (nums ds)[j]? = some n → (numUp (idsOf ds) i).1[n]? = some (firstIdx (idsOf ds) j)
  ord : ∀ q, s.ord q = wantL ds (nums ds) (dupL ds) q i
  pl : ∀ q m p, plc (s.pl q) m = some p ↔ (s.ord q)[p]? = some m
  vios : s.vios = (modelUp lg ds (dupL ds) i).map vpOf

theorem Inv.zero (lg : List Lp) (ds : List Dp) : Inv lg ds 0 ps0 :=
  ⟨rfl, fun j x h => by omega, fun x _ => rfl, fun j n h => by omega, fun q => rfl, fun q m p => by simp [ps0, plc], rfl⟩

/-- The number of line i. -/
theorem Inv.num {lg : List Lp} {ds : List Dp} {i : Nat} {s : Ps} (h : Inv lg ds i s) {d : Dp} (hd : ds[i]? = some d) : (nums ds)[i]? = some (mOf s d.id) ∧ (numUp (idsOf ds) (i + 1)).1 = (if (Sc.idx s.msgs d.id).isSome then (numUp (idsOf ds) i).1 else (numUp (idsOf ds) i).1 ++ [i]) ∧ ((Sc.idx s.msgs d.id).isSome = false → firstIdx (idsOf ds) i = i) ∧ ((Sc.idx s.msgs d.id).isSome = true → firstIdx (idsOf ds) i < i) := by
  have hil := get_lt hd
  have hids := idsOf_get hd
  have hil' : i < (idsOf ds).length := by rw [idsOf_len]; exact hil
  obtain ⟨f1, f2, f3⟩ := firstIdx_spec hil'
  have hnl := (numUp_len (idsOf ds) i).1
  rw [nums_at (i := i + 1) hil (Nat.lt_succ_self i)]
  by_cases e : firstIdx (idsOf ds) i = i
  · have hno : Sc.idx s.msgs d.id = .none := h.none d.id (fun j hj hh => by rw [e] at f3; exact f3 j hj (hh.trans hids.symm))
    rw [numUp_first e, hno]
    refine ⟨?_, by simp, fun _ => e, fun hh => by simp at hh⟩
    rw [List.getElem?_append_right (by omega), hnl, show mOf s d.id = s.msgs.length by simp [mOf, hno], h.msgs]
    simp
  · have hlt : firstIdx (idsOf ds) i < i := by omega
    have hyes := h.idx (firstIdx (idsOf ds) i) d.id hlt (f1.trans hids)
    rw [nums_at (i := i) (by omega) hlt] at hyes
    obtain ⟨n, hn⟩ : ∃ n, (numUp (idsOf ds) i).2[firstIdx (idsOf ds) i]? = some n := ⟨_, List.getElem?_eq_getElem (by omega)⟩
    rw [hn] at hyes
    rw [numUp_again e, hyes]
    refine ⟨?_, by simp, fun hh => by simp at hh, fun _ => hlt⟩
    rw [List.getElem?_append_right (by omega), hnl]
    simp [mOf, hyes, List.getD, hn]

theorem Inv.dup {lg : List Lp} {ds : List Dp} {i : Nat} {s : Ps} (h : Inv lg ds i s) (hR : ∀ (j : Nat) (d : Dp), ds[j]? = some d → 0 ≤ d.log) {d : Dp} (hd : ds[i]? = some d) : (plc (s.pl d.log.toNat) (mOf s d.id)).isSome = dupAt ds i := by
  obtain ⟨hn, _, _, _⟩ := h.num hd
  have hil := get_lt hd
  have hq : d.log = (d.log.toNat : Int) := by have := hR i d hd; omega
  rw [Bool.eq_iff_iff, dupAt_iff, Option.isSome_iff_exists]
  constructor
  · rintro ⟨p, hp⟩
    have hm : mOf s d.id ∈ wantL ds (nums ds) (dupL ds) d.log.toNat i := by rw [← h.ord]; exact List.mem_of_getElem? ((h.pl _ _ _).1 hp)
    obtain ⟨j, dj, h1, h2, h3, h4, h5⟩ := want_mem.1 hm
    have h6 := h.idx j dj.id h1 (idsOf_get h2)
    rw [h5] at h6
    obtain ⟨m0, hm0, hid0⟩ := idx_get h6
    refine ⟨j, h1, ?_⟩
    rw [dk_of h2, dk_of hd, h3, ← hq]
    have : dj.id = d.id := by
      cases hx : Sc.idx s.msgs d.id with
      | none =>
        have : mOf s d.id = s.msgs.length := by simp [mOf, hx]
        rw [this] at hm0
        rw [List.getElem?_eq_none (Nat.le_refl _)] at hm0
        cases hm0
      | some n =>
        have h7 : mOf s d.id = n := by simp [mOf, hx]
        obtain ⟨m1, hm1, hid1⟩ := idx_get hx
        rw [h7] at hm0
        rw [hm0] at hm1
        cases hm1
        rw [← hid0, hid1]
    rw [this]
  · rintro ⟨j, h1, h2⟩
    obtain ⟨j0, h3, h4, h5⟩ := dup_first (ds := ds) (i := i) j j (Nat.le_refl _) h1 h2
    obtain ⟨d0, hd0⟩ : ∃ d0, ds[j0]? = some d0 := ⟨_, List.getElem?_eq_getElem (by omega)⟩
    rw [dk_of hd0, dk_of hd] at h4
    have h6 : d0.log = d.log := congrArg Prod.fst (Option.some.inj h4)
    have h7 : d0.id = d.id := congrArg Prod.snd (Option.some.inj h4)
    have h8 := h.idx j0 d.id (by omega) (by rw [← h7]; exact idsOf_get hd0)
    obtain ⟨n0, hn0⟩ : ∃ n, (nums ds)[j0]? = some n := by
      have : j0 < (nums ds).length := by rw [nums, (numUp_len _ _).1]; omega
      exact ⟨_, List.getElem?_eq_getElem this⟩
    rw [hn0] at h8
    have h9 : mOf s d.id = n0 := by simp [mOf, h8]
    have hmem : mOf s d.id ∈ s.ord d.log.toNat := by
      rw [h.ord]
      exact want_mem.2 ⟨j0, d0, by omega, hd0, by rw [h6]; exact hq, by rw [dupL_get (by omega), h5], by rw [h9]; exact hn0⟩
    obtain ⟨p, hp⟩ := List.getElem?_of_mem hmem
    exact ⟨p, (h.pl _ _ _).2 hp⟩

theorem wantL_succ {ds : List Dp} {i q : Nat} {d : Dp} {n : Nat} {b : Bool} (hd : ds[i]? = some d) (hn : (nums ds)[i]? = some n) (hb : (dupL ds)[i]? = some b) : wantL ds (nums ds) (dupL ds) q (i + 1) = wantL ds (nums ds) (dupL ds) q i ++ if d.log = (q : Int) ∧ b = false then [n] else [] := by
  rw [wantL, pickAt, hd, hn, hb]

theorem vp_A (lg : List Lp) (d : Dp) : (zA lg d).map vpOf = vio1 lg d.log.toNat (mpOf d) := by
  unfold zA vio1
  show _ = if memB (grpOf lg d.log.toNat) d.to = true then _ else _
  split
  · rfl
  · rfl
theorem vp_B (lg : List Lp) (d f : Dp) : (zB lg d f).map vpOf = vio2 lg d.log.toNat (mpOf d) (mpOf f) := by
  unfold zB vio2
  show _ = if f.ts = d.ts ∧ f.to = d.to ∧ f.keys = d.keys then _ else _
  split
  · rfl
  · rfl

theorem Inv.step {lg : List Lp} {ds : List Dp} {i : Nat} {s : Ps} (h : Inv lg ds i s) (hR : ∀ (j : Nat) (d : Dp), ds[j]? = some d → 0 ≤ d.log) {d : Dp} (hd : ds[i]? = some d) : Inv lg ds (i + 1) (stepP lg d.log.toNat (mpOf d) s) := by
  obtain ⟨hn, hF, hf1, hf2⟩ := h.num hd
  have hdup := h.dup hR hd
  have hil := get_lt hd
  have hids := idsOf_get hd
  have hq : d.log = (d.log.toNat : Int) := by have := hR i d hd; omega
  have hb := dupL_get hil
  have hmsgs : (st1 (mpOf d) s).msgs = (numUp (idsOf ds) (i + 1)).1.map (mpD ds) := by
    rw [hF]
    show (if (Sc.idx s.msgs d.id).isSome then s.msgs else s.msgs ++ [mpOf d]) = _
    split
    · exact h.msgs
    · rw [h.msgs, List.map_append, List.map_cons, List.map_nil, mpD_of hd]
  have hidx : ∀ j x, j < i + 1 → (idsOf ds)[j]? = some x → Sc.idx (st1 (mpOf d) s).msgs x = (nums ds)[j]? := by
    intro j x hj hx
    show Sc.idx (if (Sc.idx s.msgs d.id).isSome then s.msgs else s.msgs ++ [mpOf d]) x = _
    by_cases e : j = i
    · subst e
      rw [hids] at hx
      cases hx
      rw [hn]
      cases hx2 : Sc.idx s.msgs d.id with
      | none => rw [if_neg (by simp), idx_snoc, hx2]; simp [mOf, hx2, mpOf]
      | some n => rw [if_pos (by simp), hx2]; simp [mOf, hx2]
    · have h1 := h.idx j x (by omega) hx
      split
      · exact h1
      · rw [idx_snoc, h1]
        have : j < (nums ds).length := by rw [nums, (numUp_len _ _).1]; omega
        rw [List.getElem?_eq_getElem this]
        rfl
  have hnone : ∀ x, (∀ j, j < i + 1 → (idsOf ds)[j]? ≠ some x) → Sc.idx (st1 (mpOf d) s).msgs x = Option.none := by
    intro x hx
    have h1 := h.none x (fun j hj => hx j (by omega))
    show Sc.idx (if (Sc.idx s.msgs d.id).isSome then s.msgs else s.msgs ++ [mpOf d]) x = _
    split
    · exact h1
    · rw [idx_snoc, h1, if_neg (fun e => hx i (Nat.lt_succ_self i) (by rw [hids, ← e]; rfl))]
      rfl
  have hfst : ∀ j n, j < i + 1 → (nums ds)[j]? = some n → (numUp (idsOf ds) (i + 1)).1[n]? = some (firstIdx (idsOf ds) j) := by
    have hold : ∀ (n x : Nat), (numUp (idsOf ds) i).1[n]? = some x → (numUp (idsOf ds) (i + 1)).1[n]? = some x := by
      intro n x hx
      rw [hF]
      split
      · exact hx
      · rw [List.getElem?_append_left (get_lt hx)]; exact hx
    intro j n hj hjn
    by_cases e : j = i
    · subst e
      rw [hn] at hjn
      cases hjn
      cases hx2 : Sc.idx s.msgs d.id with
      | none =>
        rw [hx2] at hF hf1
        rw [hF, hf1 rfl]
        have : mOf s d.id = (numUp (idsOf ds) j).1.length := by rw [show mOf s d.id = s.msgs.length by simp [mOf, hx2], h.msgs, List.length_map]
        rw [this]
        simp
      | some n =>
        rw [hx2] at hf2
        have hlt := hf2 rfl
        obtain ⟨f1, f2, f3⟩ := firstIdx_spec (ids := idsOf ds) (i := j) (by rw [idsOf_len]; exact hil)
        have h1 := h.idx (firstIdx (idsOf ds) j) d.id hlt (f1.trans hids)
        rw [hx2] at h1
        have h2 := hold _ _ (h.fst _ _ hlt h1.symm)
        have h3 : firstIdx (idsOf ds) (firstIdx (idsOf ds) j) = firstIdx (idsOf ds) j := by
          unfold firstIdx
          have : (idsOf ds)[List.findIdx (fun x => some x == (idsOf ds)[j]?) (idsOf ds)]? = (idsOf ds)[j]? := f1
          rw [this]
        rw [show mOf s d.id = n by simp [mOf, hx2], h2, h3]
    · exact hold _ _ (h.fst j n (by omega) hjn)
  unfold stepP
  show Inv lg ds (i + 1) (if (plc (s.pl d.log.toNat) (mOf s d.id)).isSome = true then _ else _)
  rw [hdup]
  cases hdd : dupAt ds i with
  | true =>
    rw [hdd] at hb
    rw [if_pos rfl]
    refine ⟨hmsgs, hidx, hnone, hfst, fun q => ?_, h.pl, ?_⟩
    · rw [wantL_succ hd hn hb, if_neg (by simp), List.append_nil]
      exact h.ord q
    · show s.vios ++ _ = _
      rw [h.vios, modelUp, modelAt, hd, hb]
      simp [z1, vpOf, mpOf]
  | false =>
    rw [hdd] at hb hdup
    rw [if_neg (by simp)]
    have hord : ∀ q, (st2 d.log.toNat (mOf s d.id) (st1 (mpOf d) s)).ord q = wantL ds (nums ds) (dupL ds) q (i + 1) := by
      intro q
      rw [wantL_succ hd hn hb]
      show upd s.ord d.log.toNat (s.ord d.log.toNat ++ [mOf s d.id]) q = _
      by_cases e : q = d.log.toNat
      · subst e
        rw [upd_same, if_pos ⟨hq, rfl⟩, h.ord]
      · rw [upd_other _ _ e, if_neg (fun hh => e (by have := hh.1; omega)), List.append_nil, h.ord]
    refine ⟨hmsgs, hidx, hnone, hfst, hord, fun q m p => ?_, ?_⟩
    · show plc (upd s.pl d.log.toNat ((grow (s.pl d.log.toNat) (mOf s d.id)).set (mOf s d.id) ((s.ord d.log.toNat).length + 1)) q) m = some p ↔ (upd s.ord d.log.toNat (s.ord d.log.toNat ++ [mOf s d.id]) q)[p]? = some m
      by_cases e : q = d.log.toNat
      · subst e
        rw [upd_same, upd_same, plc_put]
        have hno : ∀ p, (s.ord d.log.toNat)[p]? ≠ some (mOf s d.id) := fun p hp => by
          rw [(h.pl _ _ _).2 hp] at hdup
          cases hdup
        by_cases e2 : m = mOf s d.id
        · subst e2
          rw [if_pos rfl]
          constructor
          · intro hh
            cases hh
            simp
          · intro hh
            rw [List.getElem?_append] at hh
            split at hh
            · exact absurd hh (hno p)
            · rename_i hp
              have := get_lt hh
              simp only [List.length_cons, List.length_nil] at this
              congr 1
              omega
        · rw [if_neg e2, h.pl]
          rw [List.getElem?_append]
          split
          · exact Iff.rfl
          · rename_i hp
            rw [List.getElem?_eq_none (l := s.ord d.log.toNat) (by omega)]
            constructor
            · intro hh; cases hh
            · intro hh
              have := List.mem_of_getElem? hh
              rw [List.mem_singleton] at this
              exact absurd this e2
      · rw [upd_other _ _ e, upd_other _ _ e]
        exact h.pl q m p
    · show s.vios ++ vio1 lg d.log.toNat (mpOf d) ++ vio2 lg d.log.toNat (mpOf d) ((st1 (mpOf d) s).msgs.getD (mOf s d.id) (mpOf d)) = _
      rw [modelUp, modelAt, hd, hb, List.map_append, ← h.vios]
      simp only [Bool.false_eq_true, if_false]
      rw [List.map_append, vp_A, vp_B, List.append_assoc]
      congr 2
      have h1 := hfst i _ (Nat.lt_succ_self i) hn
      have hfi := (firstIdx_spec (ids := idsOf ds) (i := i) (by rw [idsOf_len]; exact hil)).2.1
      obtain ⟨f, hf⟩ : ∃ f, ds[firstIdx (idsOf ds) i]? = some f := ⟨_, List.getElem?_eq_getElem (by omega)⟩
      have h2 : (st1 (mpOf d) s).msgs[mOf s d.id]? = some (mpOf f) := by
        rw [hmsgs, List.getElem?_map, h1]
        simp [mpD_of hf]
      simp [List.getD, h2, hf]

theorem inv_run (lg : List Lp) (ds : List Dp) (hR : ∀ (j : Nat) (d : Dp), ds[j]? = some d → 0 ≤ d.log) : ∀ k, k ≤ ds.length → Inv lg ds k (runP lg ds k)
  | 0, _ => Inv.zero lg ds
  | k + 1, h => by
    have h1 : ds[k]? = some ds[k] := List.getElem?_eq_getElem _
    rw [runP_succ h1]
    exact (inv_run lg ds hR k (by omega)).step hR h1

end Go.Proofs.Qxb6601949a.Sc
