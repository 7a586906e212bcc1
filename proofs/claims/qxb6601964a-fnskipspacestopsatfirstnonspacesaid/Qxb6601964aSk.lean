/- THE WALKS of skipSpace and of FnSkipSpaceStopsAtFirstNonSpace. -/
import Derived.Test.Qxb6601964aRows
import Derived.WalkKit
import Derived.WalkSpells
import Derived.WalkLawsBesides
import Derived.WalkSmall
import Derived.Deep.OwnRows
import Derived.Deep.LoopGhost
import Derived.Deep.QuietTactic
import Derived.BigQuiet
import Derived.ProofKit
import Derived.ShutString
import Derived.ChangeOld
import Derived.Below
namespace Go.Proofs.Qxb6601964a.Sk
open Go.ChangeShapes Go.WideShapes Go.ChangeAt Go.RowKit
set_option linter.unusedVariables false

theorem info5 : (Try.prog.info? 5).map (fun i => (i.zero, i.size, i.bytes)) = some (some (.int .u8 0), 1, 1) := by kernel_rfl

/-- A slice of bytes in memory. -/
structure BytesAt (w : World) (a : Option Addr) (b off n : Nat) (Z : Nat → Int) : Prop where
  at' : 0 < n → a = some ⟨b, off, none⟩
  cell : ∀ i, i < n → w.cell? ⟨b, off + i, none⟩ = some (.int .u8 (Z i))
theorem BytesAt.of_below {w w' : World} {a : Option Addr} {b off n : Nat} {Z : Nat → Int} (h : BytesAt w a b off n Z) (hb : Below w.heap.size w w') : BytesAt w' a b off n Z :=
  ⟨h.at', fun i hi => (hb.cell (World.block_lt_of_cell? _ _ (h.cell i hi))).trans (h.cell i hi)⟩

/-- JSON's white space. -/
def isSp (c : Int) : Bool := c == 32 || c == 9 || c == 10 || c == 13
/-- Where a skip from p stops. -/
structure Stop (n : Nat) (Z : Nat → Int) (p q : Nat) : Prop where
  le : p ≤ q
  past : n ≤ p → q = p
  lt : p < n → q ≤ n
  sp : ∀ i, p ≤ i → i < q → isSp (Z i) = true
  no : q < n → isSp (Z q) = false

/-! ### zzCloneBytes -/
def ClonePost (w : World) (n : Nat) (Z : Nat → Int) (e : Ending) (w' : World) : Prop :=
  ∃ (a' : Option Addr) (cap' b' off' : Nat), e = .returned (.slice a' n cap') ∧ BytesAt w' a' b' off' n Z ∧ Below w.heap.size w w'
structure CW (w wr : World) (n k : Nat) (Z : Nat → Int) : Prop where
  below : Below w.heap.size w wr
  row : wr.rowIs w.heap.size 5 n (fun j => if j < k then .int .u8 (Z j) else .int .u8 0)
theorem CW.step {w wr : World} {n k : Nat} {Z : Nat → Int} (h : CW w wr n k Z) : CW w (wr.setCell ⟨w.heap.size, k, none⟩ (.int .u8 (Z k))) n (k + 1) Z := by
  refine ⟨h.below.setCell (Nat.le_refl _) _, (h.row.set k _).congr (fun i _ => ?_)⟩
  by_cases e : i = k
  · subst e; simp
  · rw [if_neg e]
    by_cases hlt : i < k
    · rw [if_pos hlt, if_pos (by omega)]
    · rw [if_neg hlt, if_neg (by omega)]

set_option maxHeartbeats 400000 in
theorem clone_any (w : World) (a : Option Addr) (b off n cap : Nat) (Z : Nat → Int) (hn : n ≤ 1048576) (hz : a = none → n = 0) (h : BytesAt w a b off n Z) :
    Calls Try.prog 12 #[.slice a n cap] w fun e w' => ClonePost w n Z e w' := by
  have q22 : ∀ (w : World) (a : Option Addr) (n c n' c' : Nat), (binOp .eql 22 (.slice a n c) (.slice none n' c')).run Try.prog w = .ok (.bool a.isNone) w := fun w a n c n' c' => Lib.run_eql_slice_nil w _ _ a n c n' c' Try.underlying22
  have hmk := run_make_row' (P := Try.prog) 22 5 (.int .u8 0) 1 Try.underlying22 info5 rfl .i64 .i64 n (by omega) (by omega)
  cases a with
  | none =>
    obtain rfl := hz rfl
    clear hmk
    go_enter Try.func12, Try.ntmps12
    go_wp2
    go_ret
    exact ⟨none, 0, 0, 0, rfl, ⟨fun hh => by omega, fun r hr => by omega⟩, Below.refl _ _⟩
  | some ad =>
    go_enter Try.func12, Try.ntmps12
    go_wp2
    have H0 : CW w (w.alloc (.cells (madeCells #[.int .u8 0] n) 5)) n 0 Z := ⟨(Below.refl _ _).alloc (Nat.le_refl _) _, (World.rowIs_made w _ n 5).congr (fun i _ => by simp)⟩
    clear hmk q22
    go_loopw [4] (fun i wr => ∃ k : Nat, k ≤ n ∧ i = .int .i64 k ∧ CW w wr n k Z) (fun i _ => n - (intOf i).toNat)
    case atStart => exact ⟨0, Nat.zero_le _, rfl, H0⟩
    case round =>
      obtain ⟨k, hk, rfl, hC⟩ := hrel
      clear H0
      by_cases hlt : k < n
      · obtain ⟨rfl⟩ := Option.some.inj (h.at' (by omega))
        have hc : wr.cell? ⟨b, off + k, none⟩ = some (.int .u8 (Z k)) := (hC.below.cell (p := ⟨b, off + k, none⟩) (World.block_lt_of_cell? _ _ (h.cell k hlt))).trans (h.cell k hlt)
        have hw1 := hC.row.cell hlt
        have hw2 := hC.row.frozen k
        have H1 := hC.step
        clear h hz hC
        go_wp2
        go_roundw
        case rel => exact ⟨k + 1, by omega, by go_num, H1⟩
        case measure => simp [intOf]; omega
      · obtain rfl : k = n := by omega
        clear h hz
        go_wp2
        go_ret
        exact ⟨_, _, w.heap.size, 0, rfl, ⟨fun _ => rfl, fun i hi => by rw [Nat.zero_add, hC.row.cell hi, if_pos hi]⟩, hC.below⟩

/-! ### zzIsJSONSpace -/
theorem isSp_or (c : Int) : isSp c = (c == 32 || c == 9 || c == 10 || c == 13) := rfl
set_option maxHeartbeats 400000 in
theorem isSpace_any (c : Int) (w : World) : Calls Try.prog 14 #[.int .u8 c] w fun e w' => e = .returned (.bool (isSp c)) ∧ w' = w := by
  by_cases h1 : c = 32
  · subst h1
    go_enter Try.func14, Try.ntmps14
    go_wp2
    go_ret
    exact ⟨rfl, rfl⟩
  by_cases h2 : c = 9
  · subst h2
    go_enter Try.func14, Try.ntmps14
    go_wp2
    go_ret
    exact ⟨rfl, rfl⟩
  by_cases h3 : c = 10
  · subst h3
    go_enter Try.func14, Try.ntmps14
    go_wp2
    go_ret
    exact ⟨rfl, rfl⟩
  by_cases h4 : c = 13
  · subst h4
    go_enter Try.func14, Try.ntmps14
    go_wp2
    go_ret
    exact ⟨rfl, rfl⟩
  · have e1 : (c == 32) = false := beq_eq_false_iff_ne.2 h1
    have e2 : (c == 9) = false := beq_eq_false_iff_ne.2 h2
    have e3 : (c == 10) = false := beq_eq_false_iff_ne.2 h3
    have e4 : (c == 13) = false := beq_eq_false_iff_ne.2 h4
    have HS : Hid (isSp c = false) := by show isSp c = false; simp [isSp, h1, h2, h3, h4]
    clear h1 h2 h3 h4
    go_enter Try.func14, Try.ntmps14
    go_wp2
    go_ret
    exact ⟨by rw [HS.out]; rfl, rfl⟩

/-! ### skipSpace -/
/-- The decoder: its block and its place. -/
structure Dec (w wr : World) (d : Nat) (a : Option Addr) (n cap : Nat) (q : Nat) : Prop where
  below : Below d w wr
  c1 : wr.cell? ⟨d, 1, none⟩ = some (.slice a n cap)
  c2 : wr.cell? ⟨d, 2, none⟩ = some (.int .i64 (q : Int))
  fz : wr.frozen? ⟨d, 2, none⟩ = false
theorem Dec.drewN {w wr : World} {d : Nat} {a : Option Addr} {n cap q : Nat} (h : Dec w wr d a n cap q) (m : Nat) : Dec w (wr.drewN m) d a n cap q := ⟨below_drewN h.below m, h.c1, h.c2, h.fz⟩
theorem Dec.step {w wr : World} {d : Nat} {a : Option Addr} {n cap q : Nat} (h : Dec w wr d a n cap q) (x : Int) (q' : Nat) (hx : x = (q' : Int)) : Dec w (wr.setCell ⟨d, 2, none⟩ (.int .i64 x)) d a n cap q' := by
  subst hx
  exact ⟨h.below.setCell (Nat.le_refl _) _, (World.cell?_setCell_other _ _ _ _ (by simp)).trans h.c1, World.cell?_setCell_same _ _ _ h.c2, by rw [World.frozen?_setCell]; exact h.fz⟩
/-- On the way: from p to q all is white space. -/
structure Mid (n : Nat) (Z : Nat → Int) (p q : Nat) : Prop where
  le : p ≤ q
  lt : p < n → q ≤ n
  past : n ≤ p → q = p
  sp : ∀ i, p ≤ i → i < q → isSp (Z i) = true

set_option maxHeartbeats 1000000 in
theorem skip_any (w : World) (d : Nat) (a : Option Addr) (b off n cap p : Nat) (Z : Nat → Int) (hn : n ≤ 1048576) (hp : p ≤ 9223372036854775807) (h : BytesAt w a b off n Z) (hbd : b < d ∨ n = 0) (hD : Dec w w d a n cap p) :
    Calls Try.prog 24 #[.pointer (some ⟨d, 0, none⟩)] w fun e w' => e = .returned (.tuple #[]) ∧ ∃ q, Stop n Z p q ∧ Dec w w' d a n cap q := by
  go_enter Try.func24, Try.ntmps24
  go_wp2
  go_loopg [] (n - p) (fun g wr => ∃ q : Nat, g = n - q ∧ Mid n Z p q ∧ Dec w wr d a n cap q)
  case atStart => exact ⟨p, rfl, ⟨Nat.le_refl _, fun h => by omega, fun _ => rfl, fun i h1 h2 => by omega⟩, hD⟩
  case round =>
    clear hD
    obtain ⟨q, rfl, hM, hD⟩ := hrel
    have c1 := hD.c1
    have c2 := hD.c2
    have fz := hD.fz
    by_cases hlt : q < n
    · have hdl : decide ((q : Int) < (n : Int)) = true := decide_eq_true (by omega)
      obtain rfl := h.at' (by omega)
      have hc : wr.cell? ⟨b, off + q, none⟩ = some (.int .u8 (Z q)) := (hD.below.cell (p := ⟨b, off + q, none⟩) (by show b < d; omega)).trans (h.cell q hlt)
      have hM' : isSp (Z q) = true → Mid n Z p (q + 1) := fun hs => ⟨by have := hM.le; omega, fun _ => by omega, fun hh => by have := hM.past hh; omega, fun i h1 h2 => by
        by_cases e : i = q
        · subst e; exact hs
        · exact hM.sp i h1 (by omega)⟩
      have hNo : isSp (Z q) = false → Stop n Z p q := fun hs => ⟨hM.le, hM.past, hM.lt, hM.sp, fun _ => hs⟩
      have HM' : Hid (isSp (Z q) = true → Mid n Z p (q + 1)) := hM'
      have HNo : Hid (isSp (Z q) = false → Stop n Z p q) := hNo
      clear hM' hNo hM h hbd
      go_wp2
      go_quiet (fail)
      replace hD := hD.drewN nq
      replace hc : (wr.drewN nq).cell? _ = _ := hc
      clear c1 c2 fz
      generalize wr.drewN nq = wa at *
      have c1 := hD.c1
      have c2 := hD.c2
      go_wp2
      go_quiet (fail)
      replace hD := hD.drewN nq
      clear c1 c2 hc
      generalize wa.drewN nq = wb at *
      have c1 := hD.c1
      have c2 := hD.c2
      have fz := hD.fz
      have HS : Hid (∀ x : Int, x = ((q + 1 : Nat) : Int) → Dec w (wb.setCell ⟨d, 2, none⟩ (.int .i64 x)) d (some ⟨b, off, none⟩) n cap (q + 1)) := fun x hx => hD.step x (q + 1) hx
      generalize Z q = c at *
      by_cases h1 : c = 32
      · subst h1
        go_wp2
        go_roundg (n - (q + 1))
        case measure => omega
        case rel => exact ⟨q + 1, rfl, HM'.out rfl, HS.out _ (by omega)⟩
      by_cases h2 : c = 9
      · subst h2
        go_wp2
        go_roundg (n - (q + 1))
        case measure => omega
        case rel => exact ⟨q + 1, rfl, HM'.out rfl, HS.out _ (by omega)⟩
      by_cases h3 : c = 10
      · subst h3
        go_wp2
        go_roundg (n - (q + 1))
        case measure => omega
        case rel => exact ⟨q + 1, rfl, HM'.out rfl, HS.out _ (by omega)⟩
      by_cases h4 : c = 13
      · subst h4
        go_wp2
        go_roundg (n - (q + 1))
        case measure => omega
        case rel => exact ⟨q + 1, rfl, HM'.out rfl, HS.out _ (by omega)⟩
      · have e1 : (c != 32) = true := by simp [h1]
        have e2 : (c != 9) = true := by simp [h2]
        have e3 : (c != 10) = true := by simp [h3]
        have e4 : (c != 13) = true := by simp [h4]
        have HF : Hid (isSp c = false) := by show isSp c = false; simp [isSp, h1, h2, h3, h4]
        clear h1 h2 h3 h4
        go_wp2
        exact bodyPost_ret (v := .tuple #[]) (by simp [results, Try.results24]) rfl ⟨rfl, q, HNo.out HF.out, hD⟩
    · have hdl : decide ((q : Int) < (n : Int)) = false := decide_eq_false (by omega)
      have HSt : Stop n Z p q := ⟨hM.le, hM.past, hM.lt, hM.sp, fun hh => by omega⟩
      clear hM h hbd
      go_wp2
      go_quiet (fail)
      replace hD := hD.drewN nq
      go_wp2
      go_end0
      exact ⟨rfl, q, HSt, hD⟩

set_option maxHeartbeats 400000 in
theorem zzSkip_any (w : World) (a : Option Addr) (b off n cap p : Nat) (Z : Nat → Int) (hn : n ≤ 1048576) (hp : p ≤ 9223372036854775807) (h : BytesAt w a b off n Z) :
    Calls Try.prog 13 #[.slice a n cap, .int .i64 (p : Int)] w fun e w' => ∃ q : Nat, e = .returned (.int .i64 (q : Int)) ∧ Stop n Z p q ∧ Below w.heap.size w w' := by
  have hb0 : Below w.heap.size w (w.alloc (.cells #[.int .u64 0, .slice a n cap, .int .i64 (p : Int)] 40)) := (Below.refl _ _).alloc (Nat.le_refl _) _
  have h' := h.of_below hb0
  have hD : Dec (w.alloc (.cells #[.int .u64 0, .slice a n cap, .int .i64 (p : Int)] 40)) (w.alloc (.cells #[.int .u64 0, .slice a n cap, .int .i64 (p : Int)] 40)) w.heap.size a n cap p :=
    ⟨Below.refl _ _, World.cell?_alloc_at _ _ _ _ rfl, World.cell?_alloc_at _ _ _ _ rfl, by simp only [World.frozen?, heap_alloc_new]; rfl⟩
  have hbd : b < w.heap.size ∨ n = 0 := by
    by_cases e : n = 0
    · exact .inr e
    · exact .inl (World.block_lt_of_cell? _ _ (h.cell 0 (by omega)))
  clear h
  go_enter Try.func13, Try.ntmps13
  go_wp2_with (go_at_call 24; refine (skip_any _ w.heap.size a b off n cap p Z hn hp h' hbd hD).mono ?_; rintro e w1 ⟨rfl, q, hs, hd⟩; have hc2 := hd.c2)
  go_ret
  exact ⟨q, rfl, hs, hb0.trans hd.below⟩

set_option maxHeartbeats 400000 in
theorem zzBytes_any (a : Option Addr) (n cap : Nat) (p : Int) (w : World) (hn : n ≤ 9223372036854775807) :
    Calls Try.prog 11 #[.slice a n cap, .int .i64 p] w fun e w' => e = .returned (.bool (decide (n ≤ 1048576))) ∧ w' = w := by
  by_cases h : n ≤ 1048576
  · rw [decide_eq_true h]
    go_enter Try.func11, Try.ntmps11
    go_wp2
    go_ret
    exact ⟨rfl, rfl⟩
  · rw [decide_eq_false h]
    go_enter Try.func11, Try.ntmps11
    go_wp2
    go_ret
    exact ⟨rfl, rfl⟩

/-- The law's own scan from the back: the least place at or after m that is no white space; n if there is none. -/
structure Back (n : Nat) (Z : Nat → Int) (m x : Nat) : Prop where
  ge : m ≤ x
  le : x ≤ n
  sp : ∀ i, m ≤ i → i < x → isSp (Z i) = true
  no : x < n → isSp (Z x) = false
theorem back_stop {n : Nat} {Z : Nat → Int} {p q x : Nat} (hp : p < n) (h : Stop n Z p q) (hb : Back n Z p x) : q = x := by
  have h1 := h.lt hp
  have h2 := hb.le
  rcases Nat.lt_trichotomy q x with hlt | he | hlt
  · have := hb.sp q h.le hlt
    have := h.no (by omega)
    simp_all
  · exact he
  · have := h.sp x hb.ge hlt
    have := hb.no (by omega)
    simp_all

set_option maxHeartbeats 1000000 in
theorem walk0 (w : World) (a : Option Addr) (b off n cap : Nat) (pI : Int) (Z : Nat → Int) (hn : n ≤ 9223372036854775807) (hp0 : -9223372036854775808 ≤ pI) (hp1 : pI ≤ 9223372036854775807) (hz : a = none → n = 0) (h : BytesAt w a b off n Z) :
    Calls Try.prog 3 #[.slice a n cap, .int .i64 pI] w fun e w' => e = .returned (.bool true) ∧ Below w.heap.size w w' := by
  by_cases hs : n ≤ 1048576
  · by_cases hneg : pI < 0
    · go_enter Try.func3, Try.ntmps3
      go_wp2_with (go_at_call 11; refine (zzBytes_any a n cap pI _ hn).mono ?_; rintro e w1 ⟨rfl, rfl⟩; rw [decide_eq_true hs])
      go_ret
      exact ⟨rfl, Below.refl _ _⟩
    obtain ⟨p, rfl⟩ := Int.eq_ofNat_of_zero_le (show 0 ≤ pI by omega)
    by_cases hpn : n ≤ p
    · go_enter Try.func3, Try.ntmps3
      go_wp2_with fail
      refine (zzBytes_any a n cap _ _ hn).mono ?_
      rintro e w1 ⟨rfl, rfl⟩
      rw [decide_eq_true hs]
      go_wp2_with fail
      refine (clone_any _ a b off n cap Z hs hz h).mono ?_
      rintro e w2 ⟨a', cap', b', off', rfl, hB, hb2⟩
      go_wp2_with fail
      refine (zzSkip_any _ a' b' off' n cap' p Z hs (by omega) hB).mono ?_
      rintro e w3 ⟨q, rfl, hst, hb3⟩
      obtain rfl := hst.past hpn
      have hbel := hb2.trans (hb3.mono hb2.size)
      clear hb2 hb3 hst hB h hz
      go_wp2_with fail
      go_ret
      exact ⟨by simp, hbel⟩
    · go_enter Try.func3, Try.ntmps3
      go_wp2_with fail
      refine (zzBytes_any a n cap _ _ hn).mono ?_
      rintro e w1 ⟨rfl, rfl⟩
      rw [decide_eq_true hs]
      go_wp2_with fail
      refine (clone_any _ a b off n cap Z hs hz h).mono ?_
      rintro e w2 ⟨a', cap', b', off', rfl, hB, hb2⟩
      go_wp2_with fail
      refine (zzSkip_any _ a' b' off' n cap' p Z hs (by omega) hB).mono ?_
      rintro e w3 ⟨q, rfl, hst, hb3⟩
      have hB3 := hB.of_below hb3
      have hbel := hb2.trans (hb3.mono hb2.size)
      have HST : Hid (Stop n Z p q) := hst
      clear hb2 hb3 hB h hz hst
      obtain rfl := hB3.at' (by omega)
      go_wp2_with fail
      go_loop [6, 7] (fun x j => ∃ (m y : Nat), p ≤ m ∧ m ≤ n ∧ j = .int .i64 ((m : Int) - 1) ∧ x = .int .i64 (y : Int) ∧ Back n Z m y) (fun _ j => (intOf j + 1).toNat)
      case atStart => exact ⟨n, n, by omega, Nat.le_refl _, rfl, rfl, ⟨Nat.le_refl _, Nat.le_refl _, fun i h1 h2 => by omega, fun h => by omega⟩⟩
      case round =>
        obtain ⟨m, y, hpm, hmn, rfl, rfl, hBk⟩ := hrel
        by_cases hlt : p < m
        · obtain ⟨k, rfl⟩ : ∃ k, m = k + 1 := ⟨m - 1, by omega⟩
          rw [show (((k + 1 : Nat) : Int) - 1) = (k : Int) by omega]
          have hc := hB3.cell k (by omega)
          by_cases hsp : isSp (Z k) = true
          · have HB : Hid (Back n Z k y) := ⟨by have := hBk.ge; omega, hBk.le, fun i h1 h2 => by
              by_cases e : i = k
              · subst e; exact hsp
              · exact hBk.sp i (by omega) h2, hBk.no⟩
            clear hBk hB3
            go_wp2_with (go_at_call 14; refine (isSpace_any (Z k) _).mono ?_; rintro e w' ⟨rfl, rfl⟩)
            go_round
            case rel => exact ⟨k, y, by omega, by omega, rfl, rfl, HB.out⟩
            case measure => simp [intOf]
          · have hsp' : isSp (Z k) = false := by simpa using hsp
            have HB : Hid (Back n Z k k) := ⟨Nat.le_refl _, by omega, fun i h1 h2 => by omega, fun _ => hsp'⟩
            clear hBk hB3 hsp
            go_wp2_with (go_at_call 14; refine (isSpace_any (Z k) _).mono ?_; rintro e w' ⟨rfl, rfl⟩)
            go_round
            case rel => exact ⟨k, k, by omega, by omega, rfl, rfl, HB.out⟩
            case measure => simp [intOf]
        · obtain rfl : m = p := by omega
          have HE := back_stop (by omega) HST.out hBk
          subst HE
          clear hBk hB3
          go_wp2_with fail
          go_ret
          exact ⟨by simp, hbel⟩
  · go_enter Try.func3, Try.ntmps3
    go_wp2_with (go_at_call 11; refine (zzBytes_any a n cap pI _ hn).mono ?_; rintro e w1 ⟨rfl, rfl⟩; rw [decide_eq_false hs])
    go_ret
    exact ⟨rfl, Below.refl _ _⟩

end Go.Proofs.Qxb6601964a.Sk
