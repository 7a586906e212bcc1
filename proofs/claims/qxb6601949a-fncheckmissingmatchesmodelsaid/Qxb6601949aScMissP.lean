/- THE SCRIPT LAWS: what the law on checkMissing wants, and that checkMissing gives it. No Go in it. -/
import Derived.Test.Qxb6601949aScMissA
import Derived.Test.Qxb6601949aScEnd
namespace Go.Proofs.Qxb6601949a.Sc
open Go.RowKit Go.Maps
set_option linter.unusedVariables false
set_option linter.unusedSimpArgs false

/-- Has log k given message m in the first i lines? -/
def delvAt (ds : List Dp) (k m i : Nat) : Bool := (List.range i).any fun j => decide ((ds[j]?).map (·.log) = some (k : Int)) && decide ((nums ds)[j]? = some m)
theorem delvAt_iff {ds : List Dp} {k m i : Nat} : delvAt ds k m i = true ↔ ∃ j d, j < i ∧ ds[j]? = some d ∧ d.log = (k : Int) ∧ (nums ds)[j]? = some m := by
  unfold delvAt
  rw [List.any_eq_true]
  constructor
  · rintro ⟨j, h1, h2⟩
    rw [Bool.and_eq_true, decide_eq_true_eq, decide_eq_true_eq] at h2
    cases hd : ds[j]? with
    | none => rw [hd] at h2; cases h2.1
    | some d =>
      rw [hd] at h2
      exact ⟨j, d, List.mem_range.1 h1, hd, Option.some.inj h2.1, h2.2⟩
  · rintro ⟨j, d, h1, h2, h3, h4⟩
    exact ⟨j, List.mem_range.2 h1, by rw [h2]; simp [h3, h4]⟩

/-- What was delivered stands in its place. -/
theorem Inv.placed {lg : List Lp} {ds : List Dp} {s : Ps} (h : Inv lg ds ds.length s) (k m : Nat) : (plc (s.pl k) m).isSome = delvAt ds k m ds.length := by
  rw [Bool.eq_iff_iff, delvAt_iff, Option.isSome_iff_exists]
  constructor
  · rintro ⟨p, hp⟩
    have hm := List.mem_of_getElem? ((h.pl k m p).1 hp)
    rw [h.ord] at hm
    obtain ⟨j, d, h1, h2, h3, _, h5⟩ := want_mem.1 hm
    exact ⟨j, d, h1, h2, h3, h5⟩
  · rintro ⟨j, d, h1, h2, h3, h4⟩
    obtain ⟨j0, h5, h6, h7⟩ : ∃ j0, j0 ≤ j ∧ dk ds j0 = dk ds j ∧ dupAt ds j0 = false := by
      cases hd : dupAt ds j with
      | false => exact ⟨j, Nat.le_refl _, rfl, hd⟩
      | true =>
        obtain ⟨j1, a1, a2⟩ := dupAt_iff.1 hd
        obtain ⟨j0, b1, b2, b3⟩ := dup_first (ds := ds) (i := j) j1 j1 (Nat.le_refl _) a1 a2
        exact ⟨j0, by omega, b2, b3⟩
    obtain ⟨d0, hd0⟩ : ∃ d0, ds[j0]? = some d0 := ⟨_, List.getElem?_eq_getElem (by omega)⟩
    rw [dk_of hd0, dk_of h2] at h6
    have e1 : d0.log = d.log := congrArg Prod.fst (Option.some.inj h6)
    have e2 : d0.id = d.id := congrArg Prod.snd (Option.some.inj h6)
    have n1 := h.idx j d.id h1 (idsOf_get h2)
    have n2 := h.idx j0 d.id (by omega) (by rw [← e2]; exact idsOf_get hd0)
    have hm : m ∈ s.ord k := by
      rw [h.ord]
      exact want_mem.2 ⟨j0, d0, by omega, hd0, by rw [e1, h3], by rw [dupL_get (by omega), h7], by rw [← n2, n1, h4]⟩
    obtain ⟨p, hp⟩ := List.getElem?_of_mem hm
    exact ⟨p, (h.pl k m p).2 hp⟩

/-! ### The law's own list -/
def zMiss (lg : List Lp) (id : ByteArray) (k : Nat) : Zv := ⟨kMiss, id, repOf lg k, ⟨#[]⟩, false⟩
def wK1 (lg : List Lp) (cr : List ByteArray) (ds : List Dp) (id : ByteArray) (m : Nat) (x : ByteArray) (k : Nat) : List Zv := if (inRow lg cr x k && !delvAt ds k m ds.length) then [zMiss lg id k] else []
def wK (lg : List Lp) (cr : List ByteArray) (ds : List Dp) (id : ByteArray) (m : Nat) (x : ByteArray) : Nat → List Zv
  | 0 => []
  | k + 1 => wK lg cr ds id m x k ++ wK1 lg cr ds id m x k
def wG (lg : List Lp) (cr : List ByteArray) (ds : List Dp) (id : ByteArray) (m : Nat) (gs : List ByteArray) : List Zv := gs.flatMap fun x => wK lg cr ds id m x lg.length
def wM (lg : List Lp) (cr : List ByteArray) (ds : List Dp) (m : Nat) : List Zv := match ((firsts ds)[m]?).bind (fun j => ds[j]?) with
  | some d => wG lg cr ds d.id m d.to
  | none => []
def wUp (lg : List Lp) (cr : List ByteArray) (ds : List Dp) : Nat → List Zv
  | 0 => []
  | m + 1 => wUp lg cr ds m ++ wM lg cr ds m
theorem wK_len (lg : List Lp) (cr : List ByteArray) (ds : List Dp) (id : ByteArray) (m : Nat) (x : ByteArray) : ∀ k, (wK lg cr ds id m x k).length ≤ k
  | 0 => Nat.le_refl _
  | k + 1 => by
    have h1 := wK_len lg cr ds id m x k
    have h2 : (wK1 lg cr ds id m x k).length ≤ 1 := by unfold wK1; split <;> simp
    rw [wK, List.length_append]; omega
theorem wG_len (lg : List Lp) (cr : List ByteArray) (ds : List Dp) (id : ByteArray) (m : Nat) (gs : List ByteArray) : (wG lg cr ds id m gs).length ≤ gs.length * lg.length :=
  flat_le _ _ gs (fun x _ => wK_len ..)
theorem wG_snoc (lg : List Lp) (cr : List ByteArray) (ds : List Dp) (id : ByteArray) (m : Nat) (gs : List ByteArray) (y : ByteArray) : wG lg cr ds id m (gs ++ [y]) = wG lg cr ds id m gs ++ wK lg cr ds id m y lg.length := by simp [wG, List.flatMap_append]
theorem wUp_len (lg : List Lp) (cr : List ByteArray) (ds : List Dp) (h : ∀ x, x ∈ ds → x.to.length ≤ 1048576) (hd : lg.length ≤ 256) : ∀ m, (wUp lg cr ds m).length ≤ m * 268435456
  | 0 => Nat.le_refl _
  | m + 1 => by
    have h1 := wUp_len lg cr ds h hd m
    have h2 : (wM lg cr ds m).length ≤ 268435456 := by
      unfold wM
      split
      · rename_i d hx
        have h3 := wG_len lg cr ds d.id m d.to
        obtain ⟨j, _, hj⟩ := Option.bind_eq_some_iff.1 hx
        have h4 := h d (List.mem_of_getElem? hj)
        exact Nat.le_trans h3 (Nat.mul_le_mul h4 hd)
      · simp
    rw [wUp, List.length_append]
    omega

theorem wK_eq {lg : List Lp} {cr : List ByteArray} {ds : List Dp} {s : Ps} (h : Inv lg ds ds.length s) (id : ByteArray) (m : Nat) (x : ByteArray) : ∀ k, (wK lg cr ds id m x k).map vpOf = missK lg s.pl id m (rowOf lg cr k x)
  | 0 => rfl
  | k + 1 => by
    rw [wK, List.map_append, wK_eq h id m x k, rowOf_succ]
    unfold missK
    rw [List.flatMap_append]
    congr 1
    unfold wK1
    rw [← h.placed k m]
    cases h1 : inRow lg cr x k with
    | false => simp
    | true =>
      cases h2 : (plc (s.pl k) m).isSome with
      | true => simp [miss1, h2]
      | false => simp [miss1, h2, zMiss, vpOf]
theorem wG_eq {lg : List Lp} {cr : List ByteArray} {ds : List Dp} {s : Ps} (h : Inv lg ds ds.length s) (id : ByteArray) (m : Nat) (gs : List ByteArray) : (wG lg cr ds id m gs).map vpOf = missG lg cr s.pl id m gs := by
  unfold wG missG
  induction gs with
  | nil => rfl
  | cons y r ih => rw [List.flatMap_cons, List.flatMap_cons, List.map_append, ih, wK_eq h]
theorem wUp_eq {lg : List Lp} {cr : List ByteArray} {ds : List Dp} {s : Ps} (h : Inv lg ds ds.length s) : ∀ m, (wUp lg cr ds m).map vpOf = missUp lg cr s.pl s.msgs m
  | 0 => rfl
  | m + 1 => by
    rw [wUp, List.map_append, wUp_eq h m, missUp]
    congr 1
    unfold wM missM
    rw [h.msgs, List.getElem?_map]
    show _ = match Option.map (mpD ds) (firsts ds)[m]? with
      | some x => _
      | none => _
    cases hj : (firsts ds)[m]? with
    | none => rfl
    | some j =>
      obtain ⟨d, hd⟩ : ∃ d, ds[j]? = some d := ⟨_, List.getElem?_eq_getElem (firsts_lt hj)⟩
      simp only [Option.bind_some, Option.map_some, hd, mpD_of hd]
      exact wG_eq h _ _ _

end Go.Proofs.Qxb6601949a.Sc
