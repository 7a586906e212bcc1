/- THE SCRIPT LAWS: the functions that only read, second part (keysEqual, slices.Equal over keys, firstIndex). -/
import Derived.Test.Qxb6601949aScRead
namespace Go.Proofs.Qxb6601949a.Sc
open Go.RowKit
set_option linter.unusedVariables false
set_option linter.unusedSimpArgs false

def EqUpK (a b : List (ByteArray × Bool)) (k : Nat) : Prop := ∀ j, j < k → a[j]? = b[j]?
theorem EqUpK.succ {a b : List (ByteArray × Bool)} {k : Nat} (h : EqUpK a b k) {x y : ByteArray × Bool} (hx : a[k]? = some x) (hy : b[k]? = some y) (e : x = y) : EqUpK a b (k + 1) := fun j hj => by
  by_cases e2 : j = k
  · subst e2; rw [hx, hy, e]
  · exact h j (by omega)
theorem EqUpK.all {a b : List (ByteArray × Bool)} {k : Nat} (h : EqUpK a b k) (ha : a.length = k) (hb : b.length = k) : a = b :=
  List.ext_getElem? fun j => by
    by_cases e : j < k
    · exact h j e
    · rw [List.getElem?_eq_none (by omega), List.getElem?_eq_none (by omega)]
theorem keys_ne {a b : List (ByteArray × Bool)} {k : Nat} {x y : ByteArray × Bool} (hx : a[k]? = some x) (hy : b[k]? = some y) (e : ¬ x = y) : decide (a = b) = false :=
  decide_eq_false fun hab => e (by rw [hab, hy] at hx; exact (Option.some.inj hx).symm)

set_option maxHeartbeats 800000 in
theorem keysEqual_any (w : World) (s t : Sl) (a b : List (ByteArray × Bool)) (hn : s.n ≤ 1099511627776) (h : CellsAt w s 2 (keysC a)) (g : CellsAt w t 2 (keysC b)) :
    Calls Try.prog 47 #[.slice s.a s.n s.cap, .slice t.a t.n t.cap] w fun e w' => e = .returned (.bool (decide (a = b))) ∧ ∃ m, w' = w.drewN m := by
  have hl := h.len
  rw [keysC_length] at hl
  have gl := g.len
  rw [keysC_length] at gl
  by_cases hne : s.n = t.n
  · have hnd : ((s.n : Int) != (t.n : Int)) = false := by simp [hne]
    go_enter Try.func47, Try.ntmps47
    go_wp2
    go_loopw [5] (fun i wr => ∃ (k : Nat) (m : Nat), k ≤ s.n ∧ i = .int .i64 k ∧ EqUpK a b k ∧ wr = w.drewN m) (fun i _ => s.n - (intOf i).toNat)
    case atStart => exact ⟨0, 0, Nat.zero_le _, rfl, fun j hj => by omega, rfl⟩
    case round =>
      obtain ⟨k, m, hk, rfl, hN, rfl⟩ := hrel
      by_cases hlt : k < s.n
      · have ha := h.at' (by omega)
        have ga := g.at' (by omega)
        obtain ⟨x0, x1, hx, hc, hc'⟩ := keys_at h hlt
        obtain ⟨y0, y1, hy, gc, gc'⟩ := keys_at g (i := k) (by omega)
        have hltt : (k : Int) < (t.n : Int) := by omega
        by_cases e : x0 = y0
        · have hb := beqL_true e
          by_cases e' : x1 = y1
          · have hN' := hN.succ hx hy (by rw [e, e'])
            subst e'
            clear h hN g
            go_wp2
            go_quiet (fail)
            go_wp2
            go_roundw
            case rel => exact ⟨k + 1, m + nq, by omega, by go_num, hN', by simp⟩
            case measure => simp [intOf]; omega
          · have hb' : (x1 == y1) = false := beq_eq_false_iff_ne.2 e'
            have hb'' : (x1 != y1) = true := by simp [e']
            have hd := keys_ne hx hy (fun hh => e' (congrArg Prod.snd hh))
            clear h hN g
            go_wp2
            go_quiet (fail)
            go_wp2
            go_ret
            exact ⟨by first | rfl | (rw [hd]; rfl), m + nq, by simp⟩
        · have hb := beqL_false e
          have hd := keys_ne hx hy (fun hh => e (congrArg Prod.fst hh))
          clear h hN g
          go_wp2
          go_quiet (fail)
          go_wp2
          go_ret
          exact ⟨by first | rfl | (rw [hd]; rfl), m + nq, by simp⟩
      · have hd : decide (a = b) = true := decide_eq_true (hN.all (by omega) (by omega))
        clear h hN g
        go_wp2
        go_ret
        exact ⟨by first | rfl | (rw [hd]; rfl), m, rfl⟩
  · have hd : decide (a = b) = false := decide_eq_false fun hab => hne (by rw [hab] at hl; omega)
    have hnd : ((s.n : Int) != (t.n : Int)) = true := by simp; omega
    clear h g
    go_enter Try.func47, Try.ntmps47
    go_wp2
    go_ret
    exact ⟨by first | rfl | (rw [hd]; rfl), 0, rfl⟩

set_option maxHeartbeats 800000 in
theorem equal59_any (w : World) (s t : Sl) (a b : List (ByteArray × Bool)) (hn : t.n ≤ 1099511627776) (h : CellsAt w s 2 (keysC a)) (g : CellsAt w t 2 (keysC b)) :
    Calls Try.prog 59 #[.slice s.a s.n s.cap, .slice t.a t.n t.cap] w fun e w' => e = .returned (.bool (decide (a = b))) ∧ ∃ m, w' = w.drewN m := by
  have hl := h.len
  rw [keysC_length] at hl
  have gl := g.len
  rw [keysC_length] at gl
  by_cases hne : s.n = t.n
  · have hnd : ((s.n : Int) != (t.n : Int)) = false := by simp [hne]
    go_enter Try.func59, Try.ntmps59
    go_wp2
    go_loopw [13] (fun i wr => ∃ (k : Nat) (m : Nat), k ≤ s.n ∧ i = .int .i64 k ∧ EqUpK a b k ∧ wr = w.drewN m) (fun i _ => s.n - (intOf i).toNat)
    case atStart => exact ⟨0, 0, Nat.zero_le _, rfl, fun j hj => by omega, rfl⟩
    case round =>
      obtain ⟨k, m, hk, rfl, hN, rfl⟩ := hrel
      by_cases hlt : k < s.n
      · have ha := h.at' (by omega)
        have ga := g.at' (by omega)
        obtain ⟨x0, x1, hx, hc, hc'⟩ := keys_at h hlt
        obtain ⟨y0, y1, hy, gc, gc'⟩ := keys_at g (i := k) (by omega)
        have hltt : (k : Int) < (t.n : Int) := by omega
        by_cases e : x0 = y0
        · have hb := beqL_true e
          by_cases e' : x1 = y1
          · have hN' := hN.succ hx hy (by rw [e, e'])
            subst e'
            clear h hN g
            go_wp2
            go_quiet (fail)
            go_wp2
            go_roundw
            case rel => exact ⟨k + 1, m + nq, by omega, by go_num, hN', by simp⟩
            case measure => simp [intOf]; omega
          · have hb' : (x1 == y1) = false := beq_eq_false_iff_ne.2 e'
            have hb'' : (x1 != y1) = true := by simp [e']
            have hd := keys_ne hx hy (fun hh => e' (congrArg Prod.snd hh))
            clear h hN g
            go_wp2
            go_quiet (fail)
            go_wp2
            go_ret
            exact ⟨by first | rfl | (rw [hd]; rfl), m + nq, by simp⟩
        · have hb := beqL_false e
          have hd := keys_ne hx hy (fun hh => e (congrArg Prod.fst hh))
          clear h hN g
          go_wp2
          go_quiet (fail)
          go_wp2
          go_ret
          exact ⟨by first | rfl | (rw [hd]; rfl), m + nq, by simp⟩
      · have hd : decide (a = b) = true := decide_eq_true (hN.all (by omega) (by omega))
        clear h hN g
        go_wp2
        go_ret
        exact ⟨by first | rfl | (rw [hd]; rfl), m, rfl⟩
  · have hd : decide (a = b) = false := decide_eq_false fun hab => hne (by rw [hab] at hl; omega)
    have hnd : ((s.n : Int) != (t.n : Int)) = true := by simp; omega
    clear h g
    go_enter Try.func59, Try.ntmps59
    go_wp2
    go_ret
    exact ⟨by first | rfl | (rw [hd]; rfl), 0, rfl⟩

/-- The first line that bears line i's id. -/
def firstIdx (ids : List ByteArray) (i : Nat) : Nat := ids.findIdx (fun x => some x == ids[i]?)
def NoneB (ids : List ByteArray) (i k : Nat) : Prop := ∀ j, j < k → ¬ ids[j]? = ids[i]?
theorem firstIdx_at {ids : List ByteArray} {i k : Nat} (h : NoneB ids i k) (hk : k ≤ i) (hi : i < ids.length) (e : ids[k]? = ids[i]?) : firstIdx ids i = k := by
  unfold firstIdx
  rw [List.findIdx_eq (by omega)]
  refine ⟨?_, fun j hj => ?_⟩
  · rw [← e, List.getElem?_eq_getElem (by omega)]; simp
  · have := h j hj
    rw [List.getElem?_eq_getElem (by omega)] at this
    simpa using this

def idsOf (ds : List Dp) : List ByteArray := ds.map (·.id)
theorem idsOf_get {ds : List Dp} {i : Nat} {d : Dp} (h : ds[i]? = some d) : (idsOf ds)[i]? = some d.id := by simp [idsOf, h]

set_option maxHeartbeats 800000 in
theorem firstIndex_any (w : World) (s : Sl) (ds : List Dp) (hn : s.n ≤ 1099511627776) (h : DsAt w s ds) (i : Nat) (hi : i < s.n) :
    Calls Try.prog 44 #[.slice s.a s.n s.cap, .int .i64 i] w fun e w' => e = .returned (.int .i64 (firstIdx (idsOf ds) i)) ∧ ∃ m, w' = w.drewN m := by
  have hlen := h.len
  have hil : (idsOf ds).length = s.n := by simp [idsOf, hlen]
  have ha := h.at' (by omega)
  obtain ⟨d, t0, k0, hd, hE⟩ := h.get hi
  have ec := hE.c1
  have hid := idsOf_get hd
  clear hE
  have hin : (i : Int) < (s.n : Int) := by omega
  go_enter Try.func44, Try.ntmps44
  go_wp2
  go_loopw [5] (fun j wr => ∃ (k : Nat) (m : Nat), k ≤ i ∧ j = .int .i64 k ∧ NoneB (idsOf ds) i k ∧ wr = w.drewN m) (fun j _ => i - (intOf j).toNat)
  case atStart => exact ⟨0, 0, Nat.zero_le _, rfl, fun j hj => by omega, rfl⟩
  case round =>
    obtain ⟨k, m, hk, rfl, hN, rfl⟩ := hrel
    by_cases hlt : k < i
    · obtain ⟨d', t', k', hd', hE'⟩ := h.get (i := k) (by omega)
      have ec' := hE'.c1
      have hid' := idsOf_get hd'
      clear hE' h
      have hkn : (k : Int) < (s.n : Int) := by omega
      by_cases e : d'.id = d.id
      · have hb := beqL_true e
        have hf := firstIdx_at hN hk (by omega) (by rw [hid, hid', e])
        go_wp2
        go_quiet (fail)
        go_wp2
        go_ret
        exact ⟨by rw [hf]; rfl, m + nq, by simp⟩
      · have hb := beqL_false e
        have hN' : NoneB (idsOf ds) i (k + 1) := fun j hj => by
          by_cases ej : j = k
          · subst ej; rw [hid, hid']; exact fun hh => e (Option.some.inj hh)
          · exact hN j (by omega)
        go_wp2
        go_quiet (fail)
        go_wp2
        go_roundw
        case rel => exact ⟨k + 1, m + nq, by omega, by go_num, hN', by simp⟩
        case measure => simp [intOf]; omega
    · obtain rfl : k = i := by omega
      have hf := firstIdx_at hN hk (by omega) rfl
      clear h
      go_wp2
      go_ret
      exact ⟨by rw [hf]; rfl, m, rfl⟩

end Go.Proofs.Qxb6601949a.Sc
