/- THE WALKS of Next and of FnNextSkipsWhitespace. -/
import Derived.Test.Qxb6000089aRows
import Derived.WalkKit
import Derived.WalkSpells
import Derived.WalkLawsBesides
import Derived.WalkSmall
import Derived.Deep.OwnRows
import Derived.Deep.LoopGhost
import Derived.Deep.QuietTactic
import Derived.BigQuiet
import Derived.ProofKit
import Derived.ShutString
import Derived.ChangeOld
import Derived.Below
namespace Go.Proofs.Qxb6000089a.Nx
open Go.ChangeShapes Go.WideShapes Go.ChangeAt Go.RowKit
set_option linter.unusedVariables false

theorem info5 : (Try.prog.info? 5).map (fun i => (i.zero, i.size, i.bytes)) = some (some (.int .u8 0), 1, 1) := by kernel_rfl

/-- A slice of bytes in memory. -/
structure BytesAt (w : World) (a : Option Addr) (b off n : Nat) (Z : Nat → Int) : Prop where
  at' : 0 < n → a = some ⟨b, off, none⟩
  cell : ∀ i, i < n → w.cell? ⟨b, off + i, none⟩ = some (.int .u8 (Z i))
theorem BytesAt.of_below {w w' : World} {a : Option Addr} {b off n : Nat} {Z : Nat → Int} (h : BytesAt w a b off n Z) (hb : Below w.heap.size w w') : BytesAt w' a b off n Z :=
  ⟨h.at', fun i hi => (hb.cell (World.block_lt_of_cell? _ _ (h.cell i hi))).trans (h.cell i hi)⟩

/-- JSON's white space. -/
def isSp (c : Int) : Bool := c == 32 || c == 9 || c == 10 || c == 13
/-- Where a skip from p stops. -/
structure Stop (n : Nat) (Z : Nat → Int) (p q : Nat) : Prop where
  le : p ≤ q
  past : n ≤ p → q = p
  lt : p < n → q ≤ n
  sp : ∀ i, p ≤ i → i < q → isSp (Z i) = true
  no : q < n → isSp (Z q) = false

/-! ### zzCloneBytes -/
def ClonePost (w : World) (n : Nat) (Z : Nat → Int) (e : Ending) (w' : World) : Prop :=
  ∃ (a' : Option Addr) (cap' b' off' : Nat), e = .returned (.slice a' n cap') ∧ BytesAt w' a' b' off' n Z ∧ Below w.heap.size w w'
structure CW (w wr : World) (n k : Nat) (Z : Nat → Int) : Prop where
  below : Below w.heap.size w wr
  row : wr.rowIs w.heap.size 5 n (fun j => if j < k then .int .u8 (Z j) else .int .u8 0)
theorem CW.step {w wr : World} {n k : Nat} {Z : Nat → Int} (h : CW w wr n k Z) : CW w (wr.setCell ⟨w.heap.size, k, none⟩ (.int .u8 (Z k))) n (k + 1) Z := by
  refine ⟨h.below.setCell (Nat.le_refl _) _, (h.row.set k _).congr (fun i _ => ?_)⟩
  by_cases e : i = k
  · subst e; simp
  · rw [if_neg e]
    by_cases hlt : i < k
    · rw [if_pos hlt, if_pos (by omega)]
    · rw [if_neg hlt, if_neg (by omega)]

set_option maxHeartbeats 400000 in
theorem clone_any (w : World) (a : Option Addr) (b off n cap : Nat) (Z : Nat → Int) (hn : n ≤ 1048576) (hz : a = none → n = 0) (h : BytesAt w a b off n Z) :
    Calls Try.prog 10 #[.slice a n cap] w fun e w' => ClonePost w n Z e w' := by
  have q22 : ∀ (w : World) (a : Option Addr) (n c n' c' : Nat), (binOp .eql 22 (.slice a n c) (.slice none n' c')).run Try.prog w = .ok (.bool a.isNone) w := fun w a n c n' c' => Lib.run_eql_slice_nil w _ _ a n c n' c' Try.underlying22
  have hmk := run_make_row' (P := Try.prog) 22 5 (.int .u8 0) 1 Try.underlying22 info5 rfl .i64 .i64 n (by omega) (by omega)
  cases a with
  | none =>
    obtain rfl := hz rfl
    clear hmk
    go_enter Try.func10, Try.ntmps10
    go_wp2
    go_ret
    exact ⟨none, 0, 0, 0, rfl, ⟨fun hh => by omega, fun r hr => by omega⟩, Below.refl _ _⟩
  | some ad =>
    go_enter Try.func10, Try.ntmps10
    go_wp2
    have H0 : CW w (w.alloc (.cells (madeCells #[.int .u8 0] n) 5)) n 0 Z := ⟨(Below.refl _ _).alloc (Nat.le_refl _) _, (World.rowIs_made w _ n 5).congr (fun i _ => by simp)⟩
    clear hmk q22
    go_loopw [4] (fun i wr => ∃ k : Nat, k ≤ n ∧ i = .int .i64 k ∧ CW w wr n k Z) (fun i _ => n - (intOf i).toNat)
    case atStart => exact ⟨0, Nat.zero_le _, rfl, H0⟩
    case round =>
      obtain ⟨k, hk, rfl, hC⟩ := hrel
      clear H0
      by_cases hlt : k < n
      · obtain ⟨rfl⟩ := Option.some.inj (h.at' (by omega))
        have hc : wr.cell? ⟨b, off + k, none⟩ = some (.int .u8 (Z k)) := (hC.below.cell (p := ⟨b, off + k, none⟩) (World.block_lt_of_cell? _ _ (h.cell k hlt))).trans (h.cell k hlt)
        have hw1 := hC.row.cell hlt
        have hw2 := hC.row.frozen k
        have H1 := hC.step
        clear h hz hC
        go_wp2
        go_roundw
        case rel => exact ⟨k + 1, by omega, by go_num, H1⟩
        case measure => simp [intOf]; omega
      · obtain rfl : k = n := by omega
        clear h hz
        go_wp2
        go_ret
        exact ⟨_, _, w.heap.size, 0, rfl, ⟨fun _ => rfl, fun i hi => by rw [Nat.zero_add, hC.row.cell hi, if_pos hi]⟩, hC.below⟩

/-! ### zzIsJSONSpace -/
theorem isSp_or (c : Int) : isSp c = (c == 32 || c == 9 || c == 10 || c == 13) := rfl
set_option maxHeartbeats 400000 in
theorem isSpace_any (c : Int) (w : World) : Calls Try.prog 18 #[.int .u8 c] w fun e w' => e = .returned (.bool (isSp c)) ∧ w' = w := by
  by_cases h1 : c = 32
  · subst h1
    go_enter Try.func18, Try.ntmps18
    go_wp2
    go_ret
    exact ⟨rfl, rfl⟩
  by_cases h2 : c = 9
  · subst h2
    go_enter Try.func18, Try.ntmps18
    go_wp2
    go_ret
    exact ⟨rfl, rfl⟩
  by_cases h3 : c = 10
  · subst h3
    go_enter Try.func18, Try.ntmps18
    go_wp2
    go_ret
    exact ⟨rfl, rfl⟩
  by_cases h4 : c = 13
  · subst h4
    go_enter Try.func18, Try.ntmps18
    go_wp2
    go_ret
    exact ⟨rfl, rfl⟩
  · have e1 : (c == 32) = false := beq_eq_false_iff_ne.2 h1
    have e2 : (c == 9) = false := beq_eq_false_iff_ne.2 h2
    have e3 : (c == 10) = false := beq_eq_false_iff_ne.2 h3
    have e4 : (c == 13) = false := beq_eq_false_iff_ne.2 h4
    have HS : Hid (isSp c = false) := by show isSp c = false; simp [isSp, h1, h2, h3, h4]
    clear h1 h2 h3 h4
    go_enter Try.func18, Try.ntmps18
    go_wp2
    go_ret
    exact ⟨by rw [HS.out]; rfl, rfl⟩

/-! ### Next -/
/-- The walker: its data and its place. -/
structure Dec (w wr : World) (d : Nat) (a : Option Addr) (n cap : Nat) (q : Nat) : Prop where
  below : Below d w wr
  c1 : wr.cell? ⟨d, 0, none⟩ = some (.slice a n cap)
  c2 : wr.cell? ⟨d, 1, none⟩ = some (.int .i64 (q : Int))
  fz : wr.frozen? ⟨d, 1, none⟩ = false
theorem Dec.drewN {w wr : World} {d : Nat} {a : Option Addr} {n cap q : Nat} (h : Dec w wr d a n cap q) (m : Nat) : Dec w (wr.drewN m) d a n cap q := ⟨below_drewN h.below m, h.c1, h.c2, h.fz⟩
theorem Dec.step {w wr : World} {d : Nat} {a : Option Addr} {n cap q : Nat} (h : Dec w wr d a n cap q) (x : Int) (q' : Nat) (hx : x = (q' : Int)) : Dec w (wr.setCell ⟨d, 1, none⟩ (.int .i64 x)) d a n cap q' := by
  subst hx
  exact ⟨h.below.setCell (Nat.le_refl _) _, (World.cell?_setCell_other _ _ _ _ (by simp)).trans h.c1, World.cell?_setCell_same _ _ _ h.c2, by rw [World.frozen?_setCell]; exact h.fz⟩
/-- On the way: from p to q all is white space. -/
structure Mid (n : Nat) (Z : Nat → Int) (p q : Nat) : Prop where
  le : p ≤ q
  lt : p < n → q ≤ n
  past : n ≤ p → q = p
  sp : ∀ i, p ≤ i → i < q → isSp (Z i) = true
/-- What Next answers where it has stopped at q. -/
def got (n : Nat) (Z : Nat → Int) (q : Nat) : Int := if q < n then Z q else 0

set_option maxHeartbeats 1000000 in
theorem next_any (w : World) (d : Nat) (a : Option Addr) (b off n cap p : Nat) (Z : Nat → Int) (hn : n ≤ 1048576) (hp : p ≤ 9223372036854775807) (h : BytesAt w a b off n Z) (hbd : b < d ∨ n = 0) (hD : Dec w w d a n cap p) :
    Calls Try.prog 16 #[.pointer (some ⟨d, 0, none⟩)] w fun e w' => ∃ q, e = .returned (.int .u8 (got n Z q)) ∧ Stop n Z p q ∧ Dec w w' d a n cap q := by
  go_enter Try.func16, Try.ntmps16
  go_wp2
  go_loopg [] (n - p) (fun g wr => ∃ q : Nat, g = n - q ∧ Mid n Z p q ∧ Dec w wr d a n cap q)
  case atStart => exact ⟨p, rfl, ⟨Nat.le_refl _, fun h => by omega, fun _ => rfl, fun i h1 h2 => by omega⟩, hD⟩
  case round =>
    clear hD
    obtain ⟨q, rfl, hM, hD⟩ := hrel
    have c1 := hD.c1
    have c2 := hD.c2
    have fz := hD.fz
    by_cases hlt : q < n
    · have hdl : decide ((q : Int) < (n : Int)) = true := decide_eq_true (by omega)
      obtain rfl := h.at' (by omega)
      have hc : wr.cell? ⟨b, off + q, none⟩ = some (.int .u8 (Z q)) := (hD.below.cell (p := ⟨b, off + q, none⟩) (by show b < d; omega)).trans (h.cell q hlt)
      have hM' : isSp (Z q) = true → Mid n Z p (q + 1) := fun hs => ⟨by have := hM.le; omega, fun _ => by omega, fun hh => by have := hM.past hh; omega, fun i h1 h2 => by
        by_cases e : i = q
        · subst e; exact hs
        · exact hM.sp i h1 (by omega)⟩
      have hNo : isSp (Z q) = false → Stop n Z p q := fun hs => ⟨hM.le, hM.past, hM.lt, hM.sp, fun _ => hs⟩
      have HM' : Hid (isSp (Z q) = true → Mid n Z p (q + 1)) := hM'
      have HNo : Hid (isSp (Z q) = false → Stop n Z p q) := hNo
      have HG : Hid (got n Z q = Z q) := by show got n Z q = Z q; unfold got; rw [if_pos hlt]
      clear hM' hNo hM h hbd
      go_wp2
      go_quiet (fail)
      replace hD := hD.drewN nq
      replace hc : (wr.drewN nq).cell? _ = _ := hc
      clear c1 c2 fz
      generalize wr.drewN nq = wa at *
      have c1 := hD.c1
      have c2 := hD.c2
      go_wp2
      go_quiet (fail)
      replace hD := hD.drewN nq
      clear c1 c2 hc
      generalize wa.drewN nq = wb at *
      have c1 := hD.c1
      have c2 := hD.c2
      have fz := hD.fz
      have HS : Hid (∀ x : Int, x = ((q + 1 : Nat) : Int) → Dec w (wb.setCell ⟨d, 1, none⟩ (.int .i64 x)) d (some ⟨b, off, none⟩) n cap (q + 1)) := fun x hx => hD.step x (q + 1) hx
      generalize Z q = c at *
      by_cases h1 : c = 32
      · subst h1
        go_wp2
        go_roundg (n - (q + 1))
        case measure => omega
        case rel => exact ⟨q + 1, rfl, HM'.out rfl, HS.out _ (by omega)⟩
      by_cases h2 : c = 9
      · subst h2
        go_wp2
        go_roundg (n - (q + 1))
        case measure => omega
        case rel => exact ⟨q + 1, rfl, HM'.out rfl, HS.out _ (by omega)⟩
      by_cases h3 : c = 10
      · subst h3
        go_wp2
        go_roundg (n - (q + 1))
        case measure => omega
        case rel => exact ⟨q + 1, rfl, HM'.out rfl, HS.out _ (by omega)⟩
      by_cases h4 : c = 13
      · subst h4
        go_wp2
        go_roundg (n - (q + 1))
        case measure => omega
        case rel => exact ⟨q + 1, rfl, HM'.out rfl, HS.out _ (by omega)⟩
      · have e1 : (c == 32) = false := beq_eq_false_iff_ne.2 h1
        have e2 : (c == 9) = false := beq_eq_false_iff_ne.2 h2
        have e3 : (c == 10) = false := beq_eq_false_iff_ne.2 h3
        have e4 : (c == 13) = false := beq_eq_false_iff_ne.2 h4
        have HF : Hid (isSp c = false) := by show isSp c = false; simp [isSp, h1, h2, h3, h4]
        clear h1 h2 h3 h4
        go_wp2
        go_ret
        exact ⟨q, by rw [HG.out]; rfl, HNo.out HF.out, hD⟩
    · have hdl : decide ((q : Int) < (n : Int)) = false := decide_eq_false (by omega)
      have HSt : Stop n Z p q := ⟨hM.le, hM.past, hM.lt, hM.sp, fun hh => by omega⟩
      have HG : Hid (got n Z q = 0) := by show got n Z q = 0; unfold got; rw [if_neg hlt]
      clear hM h hbd
      go_wp2
      go_quiet (fail)
      replace hD := hD.drewN nq
      go_wp2
      go_ret
      exact ⟨q, by rw [HG.out]; rfl, HSt, hD⟩

set_option maxHeartbeats 400000 in
theorem zzBytes_any (a : Option Addr) (n cap : Nat) (p : Int) (s : Bool) (w : World) (hn : n ≤ 9223372036854775807) :
    Calls Try.prog 14 #[.slice a n cap, .int .i64 p, .bool s] w fun e w' => e = .returned (.bool (decide (n ≤ 1048576))) ∧ w' = w := by
  by_cases h : n ≤ 1048576
  · rw [decide_eq_true h]
    go_enter Try.func14, Try.ntmps14
    go_wp2
    go_ret
    exact ⟨rfl, rfl⟩
  · rw [decide_eq_false h]
    go_enter Try.func14, Try.ntmps14
    go_wp2
    go_ret
    exact ⟨rfl, rfl⟩

set_option maxHeartbeats 400000 in
theorem zzNew_any (a : Option Addr) (n cap : Nat) (p : Int) (s : Bool) (w : World) :
    Calls Try.prog 15 #[.slice a n cap, .int .i64 p, .bool s] w fun e w' => e = .returned (.pointer (some ⟨w.heap.size, 0, none⟩)) ∧ w' = w.alloc (.cells #[.slice a n cap, .int .i64 p, .bool s] 38) := by
  go_enter Try.func15, Try.ntmps15
  go_wp2
  go_ret
  exact ⟨rfl, rfl⟩

set_option maxHeartbeats 400000 in
theorem zzPos_any (d : Nat) (q : Nat) (w : World) (hc : w.cell? ⟨d, 1, none⟩ = some (.int .i64 (q : Int))) :
    Calls Try.prog 17 #[.pointer (some ⟨d, 0, none⟩)] w fun e w' => e = .returned (.int .i64 (q : Int)) ∧ w' = w := by
  go_enter Try.func17, Try.ntmps17
  go_wp2
  go_ret
  exact ⟨rfl, rfl⟩

set_option maxHeartbeats 1000000 in
theorem walk0 (w : World) (a : Option Addr) (b off n cap : Nat) (pI : Int) (s : Bool) (Z : Nat → Int) (hn : n ≤ 9223372036854775807) (hp0 : -9223372036854775808 ≤ pI) (hp1 : pI ≤ 9223372036854775807) (hz : a = none → n = 0) (h : BytesAt w a b off n Z) :
    Calls Try.prog 5 #[.slice a n cap, .int .i64 pI, .bool s] w fun e w' => e = .returned (.bool true) ∧ Below w.heap.size w w' := by
  by_cases hs : n ≤ 1048576
  · by_cases hneg : pI < 0
    · go_enter Try.func5, Try.ntmps5
      go_wp2_with (go_at_call 14; refine (zzBytes_any a n cap pI s _ hn).mono ?_; rintro e w1 ⟨rfl, rfl⟩; rw [decide_eq_true hs])
      go_ret
      exact ⟨rfl, Below.refl _ _⟩
    obtain ⟨p, rfl⟩ := Int.eq_ofNat_of_zero_le (show 0 ≤ pI by omega)
    go_enter Try.func5, Try.ntmps5
    go_wp2_with fail
    refine (zzBytes_any a n cap _ s _ hn).mono ?_
    rintro e w1 ⟨rfl, rfl⟩
    rw [decide_eq_true hs]
    go_wp2_with fail
    refine (clone_any _ a b off n cap Z hs hz h).mono ?_
    rintro e w2 ⟨a', cap', b', off', rfl, hB, hb2⟩
    go_wp2_with fail
    refine (zzNew_any a' n cap' _ s _).mono ?_
    rintro e w3 ⟨rfl, hw3⟩
    have hb0 : Below w2.heap.size w2 w3 := by rw [hw3]; exact (Below.refl _ _).alloc (Nat.le_refl _) _
    have hB3 := hB.of_below hb0
    have hD : Dec w3 w3 w2.heap.size a' n cap' p := by
      rw [hw3]
      exact ⟨Below.refl _ _, World.cell?_alloc_at _ _ _ _ rfl, World.cell?_alloc_at _ _ _ _ rfl, by simp only [World.frozen?, heap_alloc_new]; rfl⟩
    have hbd : b' < w2.heap.size ∨ n = 0 := by
      by_cases e : n = 0
      · exact .inr e
      · exact .inl (World.block_lt_of_cell? _ _ (hB.cell 0 (by omega)))
    have hs2 := hb2.size
    clear hw3 hB h hz
    generalize w2.heap.size = d at *
    go_wp2_with fail
    refine (next_any _ d a' b' off' n cap' p Z hs (by omega) hB3 hbd hD).mono ?_
    rintro e w4 ⟨q, rfl, hst, hD4⟩
    have c2 := hD4.c2
    have hB4 : BytesAt w4 a' b' off' n Z := ⟨hB3.at', fun i hi => (hD4.below.cell (p := ⟨b', off' + i, none⟩) (by show b' < d; omega)).trans (hB3.cell i hi)⟩
    have hbel := (hb2.trans (hb0.mono hs2)).trans (hD4.below.mono hs2)
    clear hD hB3 hb0 hb2 hD4
    go_wp2_with fail
    refine (zzPos_any d q _ c2).mono ?_
    rintro e w5 ⟨rfl, rfl⟩
    clear c2
    have hle := hst.le
    by_cases hpn : n ≤ p
    · obtain rfl := hst.past hpn
      have HG : got n Z q = 0 := by unfold got; rw [if_neg (by omega)]
      rw [HG]
      clear hst HG hB4
      go_wp2_with fail
      go_ret
      exact ⟨by simp, hbel⟩
    · have hqn := hst.lt (by omega)
      obtain rfl := hB4.at' (by omega)
      have HST : Hid (Stop n Z p q) := hst
      have HG0 : Hid (got n Z q = if q < n then Z q else 0) := rfl
      clear hst
      generalize got n Z q = g at *
      have hd1 : decide (q < p) = false := decide_eq_false (by omega)
      have hd2 : decide (n ≤ p) = false := decide_eq_false (by omega)
      have hd3 : decide (n < q) = false := decide_eq_false (by omega)
      go_wp2_with fail
      go_loop [10] (fun i => ∃ k : Nat, p ≤ k ∧ k ≤ q ∧ i = .int .i64 (k : Int)) (fun i => q - (intOf i).toNat)
      case atStart => exact ⟨p, Nat.le_refl _, hle, rfl⟩
      case round =>
        obtain ⟨k, hpk, hkq, rfl⟩ := hrel
        by_cases hlt : k < q
        · have hc := hB4.cell k (by omega)
          have hsp := HST.out.sp k hpk hlt
          clear hB4
          go_wp2_with (go_at_call 18; refine (isSpace_any (Z k) _).mono ?_; rintro e w' ⟨rfl, rfl⟩)
          go_round
          case rel => exact ⟨k + 1, by omega, by omega, by go_num⟩
          case measure => simp [intOf]; omega
        · obtain rfl : k = q := by omega
          by_cases hq : k = n
          · subst hq
            have HG1 := HG0.out
            rw [if_neg (by omega)] at HG1
            subst HG1
            have hq1 : ((k : Int) == (k : Int)) = true := by simp
            clear hB4
            go_wp2_with fail
            go_ret
            exact ⟨by simp, hbel⟩
          · have hne : ((k : Int) == (n : Int)) = false := beq_eq_false_iff_ne.2 (by omega)
            have HG1 := HG0.out
            rw [if_pos (by omega)] at HG1
            subst HG1
            have hc := hB4.cell k (by omega)
            have hno := HST.out.no (by omega)
            have hkn : k < n := by omega
            clear hB4 hq
            go_wp2_with (go_at_call 18; refine (isSpace_any (Z k) _).mono ?_; rintro e w' ⟨rfl, rfl⟩)
            go_ret
            exact ⟨by simp, hbel⟩
  · go_enter Try.func5, Try.ntmps5
    go_wp2_with (go_at_call 14; refine (zzBytes_any a n cap pI s _ hn).mono ?_; rintro e w1 ⟨rfl, rfl⟩; rw [decide_eq_false hs])
    go_ret
    exact ⟨rfl, Below.refl _ _⟩

end Go.Proofs.Qxb6000089a.Nx
