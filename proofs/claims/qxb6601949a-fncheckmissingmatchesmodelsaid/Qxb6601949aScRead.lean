/- THE SCRIPT LAWS: the functions that only read (containsStr, Index, Contains, strsEqual, Equal, keysEqual, firstIndex). -/
import Derived.Test.Qxb6601949aScGate
import Derived.Laws.StructEq
namespace Go.Proofs.Qxb6601949a.Sc
open Go.RowKit
set_option linter.unusedVariables false
set_option linter.unusedSimpArgs false

instance instDecBA : DecidableEq ByteArray := fun a b => decidable_of_iff (a.data = b.data) ⟨fun h => by cases a; cases b; simp_all, fun h => by rw [h]⟩
theorem beqL_true {a b : ByteArray} (h : a = b) : (a.toList == b.toList) = true := by rw [h]; exact beq_self_eq_true _
theorem beqL_false {a b : ByteArray} (h : ¬ a = b) : (a.toList == b.toList) = false := by
  refine beq_eq_false_iff_ne.2 fun h2 => h ?_
  rw [ByteArray.toList_eq, ByteArray.toList_eq] at h2
  cases a; cases b; simp_all

theorem toList_inj {a b : ByteArray} (h : a.toList = b.toList) : a = b := by
  rw [ByteArray.toList_eq, ByteArray.toList_eq] at h
  cases a; cases b; simp_all
instance instLawBA : LawfulBEq ByteArray where
  eq_of_beq {a b} h := toList_inj (by rw [beq_toListBytes] at h; exact eq_of_beq h)
  rfl {a} := by rw [beq_toListBytes]; exact beq_self_eq_true _

def memB (x : ByteArray) (ss : List ByteArray) : Bool := decide (x ∈ ss)

/-- 'It has not come among the first k.' -/
def NotYet (x : ByteArray) (ss : List ByteArray) (k : Nat) : Prop := ∀ j y, j < k → ss[j]? = some y → ¬ y = x
theorem NotYet.zero (x : ByteArray) (ss : List ByteArray) : NotYet x ss 0 := fun j _ h => by omega
theorem NotYet.succ {x : ByteArray} {ss : List ByteArray} {k : Nat} (h : NotYet x ss k) {y : ByteArray} (hy : ss[k]? = some y) (hn : ¬ y = x) : NotYet x ss (k + 1) := fun j z hj hz => by
  by_cases e : j = k
  · subst e; rw [hy] at hz; cases hz; exact hn
  · exact h j z (by omega) hz
theorem NotYet.mem {x : ByteArray} {ss : List ByteArray} {k : Nat} (h : NotYet x ss k) (hk : ss.length ≤ k) : memB x ss = false := decide_eq_false fun hm => by
  obtain ⟨j, hj, e⟩ := List.getElem_of_mem hm
  exact h j _ (by omega) (List.getElem?_eq_getElem hj) e
theorem memB_yes {x : ByteArray} {ss : List ByteArray} {k : Nat} (hy : ss[k]? = some x) : memB x ss = true := decide_eq_true (List.mem_of_getElem? hy)

set_option maxHeartbeats 400000 in
theorem containsStr_any (w : World) (s : Sl) (ss : List ByteArray) (x : ByteArray) (hn : s.n ≤ 1099511627776) (h : CellsAt w s 1 (strsC ss)) :
    Calls Try.prog 36 #[.slice s.a s.n s.cap, .string x] w fun e w' => e = .returned (.bool (memB x ss)) ∧ w' = w := by
  go_enter Try.func36, Try.ntmps36
  go_wp2
  go_loop [5] (fun i => ∃ k : Nat, k ≤ s.n ∧ i = .int .i64 k ∧ NotYet x ss k) (fun i => s.n - (intOf i).toNat)
  case atStart => exact ⟨0, Nat.zero_le _, rfl, NotYet.zero _ _⟩
  case round =>
    obtain ⟨k, hk, rfl, hN⟩ := hrel
    have hl := h.len
    rw [strsC_length] at hl
    by_cases hlt : k < s.n
    · have ha := h.at' (by omega)
      obtain ⟨y, hy, hc⟩ := strs_at h hlt
      by_cases e : y = x
      · subst e
        have hb := beqL_true (rfl : y = y)
        have hm : memB y ss = true := memB_yes hy
        clear h hN
        go_wp2
        go_ret
        exact ⟨by first | rfl | (rw [hm]; rfl), rfl⟩
      · have hb := beqL_false e
        have hN' := hN.succ hy e
        clear h hN
        go_wp2
        go_round
        case rel => exact ⟨k + 1, by omega, by go_num, hN'⟩
        case measure => simp [intOf]; omega
    · have hm := hN.mem (by omega)
      clear h hN
      go_wp2
      go_ret
      exact ⟨by first | rfl | (rw [hm]; rfl), rfl⟩

set_option maxHeartbeats 400000 in
theorem index_any (w : World) (s : Sl) (ss : List ByteArray) (x : ByteArray) (hn : s.n ≤ 1099511627776) (h : CellsAt w s 1 (strsC ss)) :
    Calls Try.prog 60 #[.slice s.a s.n s.cap, .string x] w fun e w' => ∃ z : Int, e = .returned (.int .i64 z) ∧ decide (0 ≤ z) = memB x ss ∧ w' = w := by
  go_enter Try.func60, Try.ntmps60
  go_wp2
  go_loop [8] (fun i => ∃ k : Nat, k ≤ s.n ∧ i = .int .i64 k ∧ NotYet x ss k) (fun i => s.n - (intOf i).toNat)
  case atStart => exact ⟨0, Nat.zero_le _, rfl, NotYet.zero _ _⟩
  case round =>
    obtain ⟨k, hk, rfl, hN⟩ := hrel
    have hl := h.len
    rw [strsC_length] at hl
    by_cases hlt : k < s.n
    · have ha := h.at' (by omega)
      obtain ⟨y, hy, hc⟩ := strs_at h hlt
      by_cases e : x = y
      · subst e
        have hb := beqL_true (rfl : x = x)
        have hm : memB x ss = true := memB_yes hy
        clear h hN
        go_wp2
        go_ret
        exact ⟨k, rfl, by simp, rfl⟩
      · have hb := beqL_false e
        have hN' := hN.succ hy (Ne.symm e)
        clear h hN
        go_wp2
        go_round
        case rel => exact ⟨k + 1, by omega, by go_num, hN'⟩
        case measure => simp [intOf]; omega
    · have hm := hN.mem (by omega)
      clear h hN
      go_wp2
      go_ret
      exact ⟨-1, rfl, by simp, rfl⟩

theorem contains_any (w : World) (s : Sl) (ss : List ByteArray) (x : ByteArray) (hn : s.n ≤ 1099511627776) (h : CellsAt w s 1 (strsC ss)) :
    Calls Try.prog 56 #[.slice s.a s.n s.cap, .string x] w fun e w' => e = .returned (.bool (memB x ss)) ∧ w' = w := by
  go_enter Try.func56, Try.ntmps56
  go_wp2_with (go_at_call 60; refine (index_any w s ss x hn h).mono ?_; rintro e w1 ⟨z, rfl, hz, rfl⟩)
  go_ret
  exact ⟨by rw [← hz]; rfl, rfl⟩

def EqUp (a b : List ByteArray) (k : Nat) : Prop := ∀ j, j < k → a[j]? = b[j]?
theorem EqUp.succ {a b : List ByteArray} {k : Nat} (h : EqUp a b k) {x y : ByteArray} (hx : a[k]? = some x) (hy : b[k]? = some y) (e : x = y) : EqUp a b (k + 1) := fun j hj => by
  by_cases e2 : j = k
  · subst e2; rw [hx, hy, e]
  · exact h j (by omega)
theorem EqUp.all {a b : List ByteArray} {k : Nat} (h : EqUp a b k) (ha : a.length = k) (hb : b.length = k) : a = b :=
  List.ext_getElem? fun j => by
    by_cases e : j < k
    · exact h j e
    · rw [List.getElem?_eq_none (by omega), List.getElem?_eq_none (by omega)]

set_option maxHeartbeats 400000 in
theorem strsEqual_any (w : World) (s t : Sl) (a b : List ByteArray) (hn : s.n ≤ 1099511627776) (h : CellsAt w s 1 (strsC a)) (g : CellsAt w t 1 (strsC b)) :
    Calls Try.prog 46 #[.slice s.a s.n s.cap, .slice t.a t.n t.cap] w fun e w' => e = .returned (.bool (decide (a = b))) ∧ ∃ m, w' = w.drewN m := by
  have hl := h.len
  rw [strsC_length] at hl
  have gl := g.len
  rw [strsC_length] at gl
  by_cases hne : s.n = t.n
  · have hnd : ((s.n : Int) != (t.n : Int)) = false := by simp [hne]
    go_enter Try.func46, Try.ntmps46
    go_wp2
    go_loopw [5] (fun i wr => ∃ (k : Nat) (m : Nat), k ≤ s.n ∧ i = .int .i64 k ∧ EqUp a b k ∧ wr = w.drewN m) (fun i _ => s.n - (intOf i).toNat)
    case atStart => exact ⟨0, 0, Nat.zero_le _, rfl, fun j hj => by omega, rfl⟩
    case round =>
      obtain ⟨k, m, hk, rfl, hN, rfl⟩ := hrel
      by_cases hlt : k < s.n
      · have ha := h.at' (by omega)
        have ga := g.at' (by omega)
        obtain ⟨x, hx, hc⟩ := strs_at h hlt
        obtain ⟨y, hy, gc⟩ := strs_at g (i := k) (by omega)
        have hltt : (k : Int) < (t.n : Int) := by omega
        by_cases e : x = y
        · have hb := beqL_true e
          have hN' := hN.succ hx hy e
          clear h hN g
          go_wp2
          go_quiet (fail)
          go_wp2
          go_roundw
          case rel => exact ⟨k + 1, m + nq, by omega, by go_num, hN', by simp⟩
          case measure => simp [intOf]; omega
        · have hb := beqL_false e
          have hd : decide (a = b) = false := decide_eq_false fun hab => e (by rw [hab, hy] at hx; exact (Option.some.inj hx).symm)
          clear h hN g
          go_wp2
          go_quiet (fail)
          go_wp2
          go_ret
          exact ⟨by first | rfl | (rw [hd]; rfl), m + nq, by simp⟩
      · have hd : decide (a = b) = true := decide_eq_true (hN.all (by omega) (by omega))
        clear h hN g
        go_wp2
        go_ret
        exact ⟨by first | rfl | (rw [hd]; rfl), m, rfl⟩
  · have hd : decide (a = b) = false := decide_eq_false fun hab => hne (by rw [hab] at hl; omega)
    have hnd : ((s.n : Int) != (t.n : Int)) = true := by simp; omega
    clear h g
    go_enter Try.func46, Try.ntmps46
    go_wp2
    go_ret
    exact ⟨by first | rfl | (rw [hd]; rfl), 0, rfl⟩

set_option maxHeartbeats 400000 in
theorem equal58_any (w : World) (s t : Sl) (a b : List ByteArray) (hn : t.n ≤ 1099511627776) (h : CellsAt w s 1 (strsC a)) (g : CellsAt w t 1 (strsC b)) :
    Calls Try.prog 58 #[.slice s.a s.n s.cap, .slice t.a t.n t.cap] w fun e w' => e = .returned (.bool (decide (a = b))) ∧ ∃ m, w' = w.drewN m := by
  have hl := h.len
  rw [strsC_length] at hl
  have gl := g.len
  rw [strsC_length] at gl
  by_cases hne : s.n = t.n
  · have hnd : ((s.n : Int) != (t.n : Int)) = false := by simp [hne]
    go_enter Try.func58, Try.ntmps58
    go_wp2
    go_loopw [13] (fun i wr => ∃ (k : Nat) (m : Nat), k ≤ s.n ∧ i = .int .i64 k ∧ EqUp a b k ∧ wr = w.drewN m) (fun i _ => s.n - (intOf i).toNat)
    case atStart => exact ⟨0, 0, Nat.zero_le _, rfl, fun j hj => by omega, rfl⟩
    case round =>
      obtain ⟨k, m, hk, rfl, hN, rfl⟩ := hrel
      by_cases hlt : k < s.n
      · have ha := h.at' (by omega)
        have ga := g.at' (by omega)
        obtain ⟨x, hx, hc⟩ := strs_at h hlt
        obtain ⟨y, hy, gc⟩ := strs_at g (i := k) (by omega)
        have hltt : (k : Int) < (t.n : Int) := by omega
        by_cases e : x = y
        · have hb := beqL_true e
          have hN' := hN.succ hx hy e
          clear h hN g
          go_wp2
          go_quiet (fail)
          go_wp2
          go_roundw
          case rel => exact ⟨k + 1, m + nq, by omega, by go_num, hN', by simp⟩
          case measure => simp [intOf]; omega
        · have hb := beqL_false e
          have hd : decide (a = b) = false := decide_eq_false fun hab => e (by rw [hab, hy] at hx; exact (Option.some.inj hx).symm)
          clear h hN g
          go_wp2
          go_quiet (fail)
          go_wp2
          go_ret
          exact ⟨by first | rfl | (rw [hd]; rfl), m + nq, by simp⟩
      · have hd : decide (a = b) = true := decide_eq_true (hN.all (by omega) (by omega))
        clear h hN g
        go_wp2
        go_ret
        exact ⟨by first | rfl | (rw [hd]; rfl), m, rfl⟩
  · have hd : decide (a = b) = false := decide_eq_false fun hab => hne (by rw [hab] at hl; omega)
    have hnd : ((s.n : Int) != (t.n : Int)) = true := by simp; omega
    clear h g
    go_enter Try.func58, Try.ntmps58
    go_wp2
    go_ret
    exact ⟨by first | rfl | (rw [hd]; rfl), 0, rfl⟩

end Go.Proofs.Qxb6601949a.Sc
