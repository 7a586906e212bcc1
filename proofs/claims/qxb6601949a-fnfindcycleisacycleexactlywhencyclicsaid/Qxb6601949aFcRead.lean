/- THE WALKS of the functions on findCycle's road that only read: zzBytes_.., graphFits, edgesInRange, hasEdge. -/
import Derived.Test.Qxb6601949aProg
import Derived.Test.Qxb6601949aFcPlain
import Derived.WalkKit
import Derived.WalkSpells
import Derived.WalkLawsBesides
namespace Go.Proofs.Qxb6601949a.Fc
open Go.RowKit

/-- A GRAPH IN MEMORY: the outer row of n slices at b, off; row r has L r numbers 'Z r c'. -/
structure GraphAt (w : World) (a : Option Addr) (b off n : Nat) (A : Nat → Option Addr) (L C GB GO : Nat → Nat) (Z : Nat → Nat → Int) : Prop where
  at' : 0 < n → a = some ⟨b, off, none⟩
  row : ∀ r, r < n → w.cell? ⟨b, off + r, none⟩ = some (.slice (A r) (L r) (C r))
  cell : ∀ r, r < n → ∀ c, c < L r → A r = some ⟨GB r, GO r, none⟩ ∧ w.cell? ⟨GB r, GO r + c, none⟩ = some (.int .i64 (Z r c))

theorem GraphAt.of_below {w w' : World} {a : Option Addr} {b off n : Nat} {A : Nat → Option Addr} {L C GB GO : Nat → Nat} {Z : Nat → Nat → Int} (h : GraphAt w a b off n A L C GB GO Z) (hb : Below w.heap.size w w') : GraphAt w' a b off n A L C GB GO Z :=
  ⟨h.at', fun r hr => (hb.cell (World.block_lt_of_cell? _ _ (h.row r hr))).trans (h.row r hr), fun r hr c hc => ⟨(h.cell r hr c hc).1, (hb.cell (World.block_lt_of_cell? _ _ (h.cell r hr c hc).2)).trans (h.cell r hr c hc).2⟩⟩

/-- 'It returns a bool; if that is true then p.' -/
def RetB (e : Ending) (p : Prop) : Prop := ∃ v : Bool, e = .returned (.bool v) ∧ (v = true → p)
theorem retB_no (p : Prop) : RetB (.returned (.bool false)) p := ⟨false, rfl, fun h => by cases h⟩
theorem retB_yes {p : Prop} (h : p) : RetB (.returned (.bool true)) p := ⟨true, rfl, fun _ => h⟩

set_option maxHeartbeats 400000 in
theorem zzBytes_any (w : World) (a : Option Addr) (b off n cap : Nat) (A : Nat → Option Addr) (L C GB GO : Nat → Nat) (Z : Nat → Nat → Int) (hn : n ≤ 9223372036854775807) (hL : ∀ r, r < n → L r ≤ 9223372036854775807) (h : GraphAt w a b off n A L C GB GO Z) :
    Calls Try.prog 7 #[.slice a n cap] w fun e w' => RetB e True ∧ w' = w := by
  go_enter Try.func7, Try.ntmps7
  go_wp2
  · go_ret
    exact ⟨retB_no _, rfl⟩
  · go_loop [3, 4] (fun t i => ∃ (k : Nat) (m : Int), k ≤ n ∧ i = .int .i64 k ∧ t = .int .i64 m ∧ 0 ≤ m ∧ m ≤ 1048576) (fun _ i => n - (intOf i).toNat)
    case atStart => exact ⟨0, _, Nat.zero_le _, rfl, rfl, by omega, by omega⟩
    case round =>
      obtain ⟨k, m, hk, rfl, rfl, hm0, hm1⟩ := hrel
      by_cases hlt : k < n
      · obtain rfl := h.at' (by omega)
        have hc := h.row k hlt
        have hl := hL k hlt
        clear h hL
        go_wp2
        · go_ret
          exact ⟨retB_no _, rfl⟩
        · go_ret
          exact ⟨retB_no _, rfl⟩
        · go_round
          case rel => exact ⟨k + 1, _, by omega, by go_num, rfl, by omega, by omega⟩
          case measure => simp [intOf]; omega
      · clear h hL
        go_wp2
        go_ret
        exact ⟨retB_yes trivial, rfl⟩

def weight (L : Nat → Nat) : Nat → Nat := sumTo (fun r => 24 + 8 * L r)
theorem weight_succ (L : Nat → Nat) (k : Nat) : weight L (k + 1) = weight L k + (24 + 8 * L k) := rfl

set_option maxHeartbeats 400000 in
theorem graphFits_any (w : World) (a : Option Addr) (b off n cap : Nat) (A : Nat → Option Addr) (L C GB GO : Nat → Nat) (Z : Nat → Nat → Int) (hn : n ≤ 9223372036854775807) (hL : ∀ r, r < n → L r ≤ 9223372036854775807) (h : GraphAt w a b off n A L C GB GO Z) :
    Calls Try.prog 8 #[.slice a n cap] w fun e w' => RetB e (n ≤ 65536 ∧ weight L n ≤ 1048576) ∧ w' = w := by
  go_enter Try.func8, Try.ntmps8
  go_wp2
  · go_ret
    exact ⟨retB_no _, rfl⟩
  · go_loop [3, 4] (fun t i => ∃ (k : Nat), k ≤ n ∧ i = .int .i64 k ∧ t = .int .i64 (weight L k) ∧ weight L k ≤ 1048576) (fun _ i => n - (intOf i).toNat)
    case atStart => exact ⟨0, Nat.zero_le _, rfl, rfl, by simp [weight, sumTo]⟩
    case round =>
      obtain ⟨k, hk, rfl, rfl, hm1⟩ := hrel
      have HW : Hid (weight L (k + 1) = weight L k + (24 + 8 * L k)) := weight_succ L k
      by_cases hlt : k < n
      · obtain rfl := h.at' (by omega)
        have hc := h.row k hlt
        have hl := hL k hlt
        clear h hL
        go_wp2
        · go_ret
          exact ⟨retB_no _, rfl⟩
        · go_ret
          exact ⟨retB_no _, rfl⟩
        · go_round
          case rel => exact ⟨k + 1, by omega, by go_num, by rw [HW.out]; go_num, by rw [HW.out]; omega⟩
          case measure => simp [intOf]; omega
      · clear h hL
        go_wp2
        go_ret
        obtain rfl : k = n := by omega
        exact ⟨retB_yes ⟨by omega, hm1⟩, rfl⟩

def rowOk (n : Nat) (Z : Nat → Nat → Int) (r m : Nat) : Prop := ∀ c, c < m → 0 ≤ Z r c ∧ Z r c < n
def rowsOk (n : Nat) (L : Nat → Nat) (Z : Nat → Nat → Int) (k : Nat) : Prop := ∀ r, r < k → rowOk n Z r (L r)

set_option maxHeartbeats 400000 in
theorem edgesInRange_any (w : World) (a : Option Addr) (b off n cap : Nat) (A : Nat → Option Addr) (L C GB GO : Nat → Nat) (Z : Nat → Nat → Int) (hn : n ≤ 65536) (hL : ∀ r, r < n → L r ≤ 1048576) (h : GraphAt w a b off n A L C GB GO Z) :
    Calls Try.prog 9 #[.slice a n cap] w fun e w' => RetB e (rowsOk n L Z n) ∧ w' = w := by
  go_enter Try.func9, Try.ntmps9
  go_wp2
  go_loop [4, 5, 6] (fun i _ _ => ∃ (k : Nat), k ≤ n ∧ i = .int .i64 k ∧ rowsOk n L Z k) (fun i _ _ => n - (intOf i).toNat)
  case atStart => exact ⟨0, Nat.zero_le _, rfl, fun r hr => by omega⟩
  case round =>
    obtain ⟨k, hk, rfl, hok⟩ := hrel
    by_cases hlt : k < n
    · obtain rfl := h.at' (by omega)
      have hc := h.row k hlt
      have hl := hL k hlt
      go_wp2
      go_loop [5, 6] (fun j _ => ∃ (m : Nat), m ≤ L k ∧ j = .int .i64 m ∧ rowOk n Z k m) (fun j _ => L k - (intOf j).toNat)
      case atStart => exact ⟨0, Nat.zero_le _, rfl, fun c hc => by omega⟩
      case round =>
        obtain ⟨m, hm, rfl, hrow⟩ := hrel
        by_cases hml : m < L k
        · obtain ⟨hA, hcell⟩ := h.cell k hlt m hml
          rw [hA] at hc
          clear h hL hA
          by_cases hz : Z k m < 0
          · go_wp2
            go_ret
            exact ⟨retB_no _, rfl⟩
          · by_cases hz2 : (n : Int) ≤ Z k m
            · go_wp2
              go_ret
              exact ⟨retB_no _, rfl⟩
            · go_wp2
              go_round
              case rel => exact ⟨m + 1, by omega, by go_num, fun c hc => by
                by_cases e : c = m
                · subst e; omega
                · exact hrow c (by omega)⟩
              case measure => simp [intOf]; omega
        · clear h hL
          go_wp2
          go_round
          case rel => exact ⟨k + 1, by omega, by go_num, fun r hr => by
            by_cases e : r = k
            · subst e; exact fun c hc => hrow c (by omega)
            · exact hok r (by omega)⟩
          case measure => simp [intOf]; omega
    · clear h hL
      go_wp2
      go_ret
      obtain rfl : k = n := by omega
      exact ⟨retB_yes hok, rfl⟩

set_option maxHeartbeats 400000 in
theorem hasEdge_any (w : World) (a : Option Addr) (b off n cap : Nat) (A : Nat → Option Addr) (L C GB GO : Nat → Nat) (E : Nat → Nat → Nat) (u v : Nat) (hn : n ≤ 65536) (hL : ∀ r, r < n → L r ≤ 1048576) (h : GraphAt w a b off n A L C GB GO (fun r c => (E r c : Int))) (hu : u < n) (hE : Edge L E u v) :
    Calls Try.prog 38 #[.slice a n cap, .int .i64 u, .int .i64 v] w fun e w' => e = .returned (.bool true) ∧ w' = w := by
  obtain rfl := h.at' (by omega)
  obtain ⟨c0, hc0, he0⟩ := hE
  have hc := h.row u hu
  have hl := hL u hu
  go_enter Try.func38, Try.ntmps38
  go_wp2
  go_loop [7] (fun j => ∃ (m : Nat), m ≤ c0 ∧ j = .int .i64 m) (fun j => L u - (intOf j).toNat)
  case atStart => exact ⟨0, Nat.zero_le _, rfl⟩
  case round =>
    obtain ⟨m, hm, rfl⟩ := hrel
    have hml : m < L u := by omega
    obtain ⟨hA, hcell⟩ := h.cell u hu m hml
    rw [hA] at hc
    clear h hL hA
    by_cases hz : E u m = v
    · have hb : ((E u m : Int) == (v : Int)) = true := by simp [hz]
      go_wp2
      go_ret
      exact ⟨rfl, rfl⟩
    · have hb : ((E u m : Int) == (v : Int)) = false := by simp; omega
      have hne : m ≠ c0 := fun e => hz (by rw [e]; exact he0)
      go_wp2
      go_round
      case rel => exact ⟨m + 1, by omega, by go_num⟩
      case measure => simp [intOf]; omega

end Go.Proofs.Qxb6601949a.Fc
