/- THE SCRIPT LAWS: what the history gives the laws. -/
import Derived.Test.Qxb6601949aScHist
import Derived.Test.Qxb6601949aScScript
namespace Go.Proofs.Qxb6601949a.Sc
open Go.RowKit Go.Maps
set_option linter.unusedVariables false
set_option linter.unusedSimpArgs false

theorem countS_filter (l : List Nat) : ∀ n, countS l n = ((List.range n).filter fun m => (plc l m).isSome).length
  | 0 => rfl
  | n + 1 => by
    rw [countS, countS_filter l n, List.range_succ, List.filter_append, List.length_append]
    congr 1
    cases h : (plc l n).isSome <;> simp [h]

theorem Inv.nodup {lg : List Lp} {ds : List Dp} {i : Nat} {s : Ps} (h : Inv lg ds i s) (q : Nat) : (s.ord q).Nodup := by
  rw [List.Nodup, List.pairwise_iff_getElem]
  intro a b ha hb hab e
  have h1 := (h.pl q (s.ord q)[a] a).2 (List.getElem?_eq_getElem ha)
  have h2 := (h.pl q (s.ord q)[b] b).2 (List.getElem?_eq_getElem hb)
  rw [e, h2] at h1
  cases h1
  omega

theorem Inv.ord_lt {lg : List Lp} {ds : List Dp} {s : Ps} (h : Inv lg ds ds.length s) {q m : Nat} (hm : m ∈ s.ord q) : m < (firsts ds).length := by
  rw [h.ord] at hm
  obtain ⟨j, d, h1, h2, h3, h4, h5⟩ := want_mem.1 hm
  exact get_lt (h.fst j m h1 h5)

theorem Inv.count {lg : List Lp} {ds : List Dp} {s : Ps} (h : Inv lg ds ds.length s) (q : Nat) : countS (s.pl q) (firsts ds).length = (s.ord q).length := by
  rw [countS_filter]
  refine (((List.perm_ext_iff_of_nodup ?_ (h.nodup q)).2 ?_).length_eq)
  · exact List.Nodup.sublist List.filter_sublist List.nodup_range
  · intro m
    rw [List.mem_filter, List.mem_range, Option.isSome_iff_exists]
    constructor
    · rintro ⟨_, p, hp⟩
      exact List.mem_of_getElem? ((h.pl q m p).1 hp)
    · intro hm
      obtain ⟨p, hp⟩ := List.getElem?_of_mem hm
      exact ⟨h.ord_lt hm, p, (h.pl q m p).2 hp⟩

/-- Each message is its first line. -/
theorem Inv.msg {lg : List Lp} {ds : List Dp} {s : Ps} (h : Inv lg ds ds.length s) {m j : Nat} (hj : (firsts ds)[m]? = some j) : s.msgs[m]? = some (mpD ds j) := by
  rw [h.msgs, List.getElem?_map]
  show Option.map _ (firsts ds)[m]? = _
  rw [hj]; rfl
theorem numUp_lt (ids : List ByteArray) : ∀ k j, j ∈ (numUp ids k).1 → j < k
  | 0, j, h => by cases h
  | k + 1, j, h => by
    rw [numUp] at h
    split at h
    · rcases List.mem_append.1 h with h | h
      · exact Nat.lt_succ_of_lt (numUp_lt ids k j h)
      · rw [List.mem_singleton] at h; omega
    · exact Nat.lt_succ_of_lt (numUp_lt ids k j h)
theorem firsts_lt {ds : List Dp} {m j : Nat} (h : (firsts ds)[m]? = some j) : j < ds.length := numUp_lt _ _ _ (List.mem_of_getElem? h)

theorem vios_match {vs : List Vio} {zs : List Zv} (h : vs.map absV = zs.map vpOf) : vs.length = zs.length ∧ ∀ (i : Nat) (z : Zv), zs[i]? = some z → ∃ v, vs[i]? = some v ∧ absV v = vpOf z := by
  have hl : vs.length = zs.length := by have := congrArg List.length h; simpa using this
  refine ⟨hl, fun i z hz => ?_⟩
  have hi : i < vs.length := by have := get_lt hz; omega
  refine ⟨vs[i], List.getElem?_eq_getElem hi, ?_⟩
  have h1 := congrArg (fun l => l[i]?) h
  simp only [List.getElem?_map, hz, List.getElem?_eq_getElem hi, Option.map_some, Option.some.injEq] at h1
  exact h1

theorem St.viosAt {w : World} {T : Nat → Nat} {B : Nat} {g : G} (S : St w T B g) : ∃ s : Sl, g.vioV = .slice s.a s.n s.cap ∧ ViosAt w s g.vios := by
  obtain ⟨s, h1, _, h3, _⟩ := S.vios.cells
  exact ⟨s, h1, h3, fun v hv => ⟨(S.vioI v hv).1.cells, (S.vioI v hv).2.cells⟩⟩
theorem nums_len (ds : List Dp) : (nums ds).length = ds.length := (numUp_len _ _).1
theorem nums_le {ds : List Dp} {x : Nat} (h : x ∈ nums ds) : x ≤ ds.length := by
  have hall : ∀ k x, x ∈ (numUp (idsOf ds) k).2 → x ≤ k := by
    intro k
    induction k with
    | zero => intro x hx; cases hx
    | succ k ih =>
      intro x hx
      have hl := (numUp_len (idsOf ds) k)
      rw [numUp] at hx
      split at hx
      · rcases List.mem_append.1 hx with h | h
        · exact Nat.le_succ_of_le (ih x h)
        · rw [List.mem_singleton] at h; omega
      · rcases List.mem_append.1 hx with h | h
        · exact Nat.le_succ_of_le (ih x h)
        · rw [List.mem_singleton] at h
          subst h
          rw [List.getD_eq_getElem?_getD]
          cases hh : (numUp (idsOf ds) k).2[firstIdx (idsOf ds) k]? with
          | none => simp
          | some y => exact Nat.le_succ_of_le (ih y (List.mem_of_getElem? hh))
  exact hall _ _ h

end Go.Proofs.Qxb6601949a.Sc
