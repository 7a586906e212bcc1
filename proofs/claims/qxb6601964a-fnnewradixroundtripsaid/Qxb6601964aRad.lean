/- THE WALKS of newRadix and ZZNewRadix. -/
import Derived.Test.Qxb6601964aProg
import Derived.WalkKit
import Derived.WalkSpells
import Derived.WalkLawsBesides
import Derived.WalkSmall
import Derived.Deep.OwnRows
import Derived.Deep.QuietTactic
import Derived.BigQuiet
import Derived.Deep.RegionHeld3
import Derived.Deep.MidRow
namespace Go.Proofs.Qxb6601964a.Rad
open Go.RowKit

def upd (f : Nat → Nat) (i x : Nat) : Nat → Nat := fun j => if j = i then x else f j
/-- The digits of math/big. -/
def digitsA : Array UInt8 := #[48, 49, 50, 51, 52, 53, 54, 55, 56, 57, 97, 98, 99, 100, 101, 102, 103, 104, 105, 106, 107, 108, 109, 110, 111, 112, 113, 114, 115, 116, 117, 118, 119, 120, 121, 122, 65, 66, 67, 68, 69, 70, 71, 72, 73, 74, 75, 76, 77, 78, 79, 80, 81, 82, 83, 84, 85, 86, 87, 88, 89, 90]
def dig (v : Nat) : Nat := if v < 10 then 48 + v else if v < 36 then 87 + v else 29 + v
theorem dig_lt {v : Nat} (h : v < 62) : dig v < 256 := by unfold dig; split; omega; split <;> omega
theorem dig_inj {u v : Nat} (hu : u < 62) (hv : v < 62) (h : dig u = dig v) : u = v := by
  unfold dig at h
  split at h <;> split at h <;> (try split at h) <;> (try split at h) <;> omega
theorem index_at (s : ByteArray) (k : Nat) (hk : k < s.size) (W : World) : (Instr.index 9 (.string s) (.int .i64 (k : Int))).run Try.prog W = .ok (.int .u8 (s[k].toNat : Int)) W := by
  rw [run_index_string W 9 s .i64 k Try.underlying9, dif_pos ⟨by omega, by omega⟩]
  simp
theorem index_dig (k : Nat) (hk : k < 62) (W : World) : (Instr.index 9 (.string ⟨#[48, 49, 50, 51, 52, 53, 54, 55, 56, 57, 97, 98, 99, 100, 101, 102, 103, 104, 105, 106, 107, 108, 109, 110, 111, 112, 113, 114, 115, 116, 117, 118, 119, 120, 121, 122, 65, 66, 67, 68, 69, 70, 71, 72, 73, 74, 75, 76, 77, 78, 79, 80, 81, 82, 83, 84, 85, 86, 87, 88, 89, 90]⟩) (.int .i64 (k : Int))).run Try.prog W = .ok (.int .u8 (dig k : Int)) W := by
  have h : ∀ k : Fin 62, ((⟨digitsA⟩ : ByteArray)[k.1]'k.2).toNat = dig k.1 := by decide
  have := index_at ⟨digitsA⟩ k hk W
  rw [h ⟨k, hk⟩] at this
  exact this

/-- fromBig, toBig behind k rounds: 'al v': the alphabet's v-th byte. -/
def fromN (al : Nat → Nat) : Nat → Nat → Nat
  | 0 => fun _ => 0
  | k + 1 => upd (fromN al k) (dig k) (al k)
def toN (al : Nat → Nat) : Nat → Nat → Nat
  | 0 => fun _ => 0
  | k + 1 => upd (toN al k) (al k) (dig k)

/-- The cells of a radix. -/
def radF (base zer : Nat) (f t : Nat → Nat) : Nat → Value := fun j =>
  if j = 0 then .int .i64 (base : Int) else if j = 1 then .int .u8 (zer : Int) else if j < 258 then .int .u8 (f (j - 2) : Int) else .int .u8 (t (j - 258) : Int)
def radCells (x y : Int) : Array Value := #[.int .i64 x, .int .u8 y] ++ Array.replicate 512 (.int .u8 0)
theorem run_build (x y : Int) (W : World) : (Instr.build 44 #[(0, .int .i64 x), (1, .int .u8 y)]).run Try.prog W = .ok (.agg (radCells x y)) W := by kernel_rfl

theorem wpList_build44 {w : World} {ops : Array Oper} {rest : List Oper} {o : Oper} {a : Act} {Q : Exit → Act → World → Prop} (hg : o.guard = none) (l c : Operand) (hop : o.op = Op.build 44 #[(0, l), (1, c)]) (x y : Int)
    (hl : a.eval l = .int .i64 x) (hc : a.eval c = .int .u8 y) (hK : wpList Try.prog ops Q rest (a.put o.dst (.agg (radCells x y))) w) : wpList Try.prog ops Q (o :: rest) a w := by
  refine wpList_plain hg fun K hK' => ?_
  have hrun := run_build x y w
  unfold Oper.wp
  simp [execOp, hop, hl, hc, hrun, Result.andThen]
  exact hK' _ _ hK

structure RW (w wr : World) (base zer : Nat) (f t : Nat → Nat) : Prop where
  below : Below w.heap.size w wr
  row : wr.rowIs w.heap.size 44 514 (radF base zer f t)
theorem RW.start (w : World) (base zer : Nat) : RW w (w.alloc (.cells (radCells base zer) 44)) base zer (fun _ => 0) (fun _ => 0) := by
  refine ⟨(Below.refl _ _).alloc (Nat.le_refl _) _, ?_⟩
  have := World.rowIs_alloc w (radCells base zer) 44 (radF base zer (fun _ => 0) (fun _ => 0)) (fun i hi => ?_)
  · simpa [radCells] using this
  · have hi' : i < 514 := by simpa [radCells] using hi
    by_cases e0 : i = 0
    · subst e0; unfold radF; rw [if_pos rfl]; unfold radCells; rw [Array.getElem?_append_left (by simp)]; rfl
    by_cases e1 : i = 1
    · subst e1; unfold radF; rw [if_neg (by omega), if_pos rfl]; unfold radCells; rw [Array.getElem?_append_left (by simp)]; rfl
    have e2 : radF base zer (fun _ => 0) (fun _ => 0) i = .int .u8 0 := by
      unfold radF; rw [if_neg e0, if_neg e1]; split <;> rfl
    rw [e2]
    unfold radCells
    rw [Array.getElem?_append_right (by simp; omega), Array.getElem?_replicate, if_pos (by simp; omega)]
theorem RW.drew {w wr : World} {base zer : Nat} {f t : Nat → Nat} (h : RW w wr base zer f t) : RW w wr.drew base zer f t := ⟨h.below.drew, h.row⟩
theorem RW.setFrom {w wr : World} {base zer : Nat} {f t : Nat → Nat} (h : RW w wr base zer f t) (d x : Nat) (hd : d < 256) : RW w (wr.setCell ⟨w.heap.size, 2 + d, none⟩ (.int .u8 (x : Int))) base zer (upd f d x) t := by
  refine ⟨h.below.setCell (Nat.le_refl _) _, (h.row.set (2 + d) _).congr (fun j hj => ?_)⟩
  unfold radF upd
  by_cases e : j = 2 + d
  · subst e; rw [if_pos rfl, if_neg (by omega), if_neg (by omega), if_pos (by omega), if_pos (by omega)]
  · rw [if_neg e]
    split
    · rfl
    · split
      · rfl
      · split
        · rw [if_neg (by omega)]
        · rfl
theorem RW.setTo {w wr : World} {base zer : Nat} {f t : Nat → Nat} (h : RW w wr base zer f t) (d x : Nat) (hd : d < 256) : RW w (wr.setCell ⟨w.heap.size, 258 + d, none⟩ (.int .u8 (x : Int))) base zer f (upd t d x) := by
  refine ⟨h.below.setCell (Nat.le_refl _) _, (h.row.set (258 + d) _).congr (fun j hj => ?_)⟩
  unfold radF upd
  by_cases e : j = 258 + d
  · subst e; rw [if_pos rfl, if_neg (by omega), if_neg (by omega), if_neg (by omega), if_pos (by omega)]
  · rw [if_neg e]
    split
    · rfl
    · split
      · rfl
      · split
        · rfl
        · rw [if_neg (by omega)]

/-- The alphabet's v-th byte. -/
def alOf (s : ByteArray) (v : Nat) : Nat := (s.data.toList.getD v 0).toNat
theorem alOf_eq (s : ByteArray) (v : Nat) (hv : v < s.size) : s[v].toNat = alOf s v := by
  have : v < s.data.toList.length := by simpa using hv
  unfold alOf
  rw [List.getD_eq_getElem?_getD, List.getElem?_eq_getElem this]
  rfl
theorem alOf_lt (s : ByteArray) (v : Nat) : alOf s v < 256 := UInt8.toNat_lt _
theorem index_al (s : ByteArray) (k : Nat) (hk : k < s.size) (W : World) : (Instr.index 9 (.string s) (.int .i64 (k : Int))).run Try.prog W = .ok (.int .u8 (alOf s k : Int)) W := by
  rw [index_at s k hk W, alOf_eq s k hk]

set_option maxHeartbeats 400000 in
theorem newRadix_any (s : ByteArray) (w : World) (h2 : 2 ≤ s.size) (h62 : s.size ≤ 62) :
    Calls Try.prog 26 #[.string s] w fun e w' => e = .returned (.pointer (some ⟨w.heap.size, 0, none⟩)) ∧ RW w w' s.size (alOf s 0) (fromN (alOf s) s.size) (toN (alOf s) s.size) := by
  have h0 : ∀ W : World, (Instr.index 9 (.string s) (.int .i64 0)).run Try.prog W = .ok (.int .u8 (alOf s 0 : Int)) W := fun W => index_al s 0 (by omega) W
  go_enter Try.func26, Try.ntmps26
  go_wp2_with (refine wpList_build44 rfl (.tmp 6) (.tmp 8) rfl _ _ rfl rfl ?_)
  have H0 := RW.start w s.size (alOf s 0)
  clear h0
  go_loopw [13] (fun i wr => ∃ k : Nat, k ≤ s.size ∧ i = .int .i64 k ∧ RW w wr s.size (alOf s 0) (fromN (alOf s) k) (toN (alOf s) k)) (fun i _ => s.size - (intOf i).toNat)
  case atStart => exact ⟨0, Nat.zero_le _, rfl, H0⟩
  case round =>
    obtain ⟨k, hk, rfl, hR⟩ := hrel
    clear H0
    by_cases hlt : k < s.size
    · have hi1 := index_al s k hlt
      have hi2 := index_dig k (by omega)
      have ha := alOf_lt s k
      have hd := dig_lt (v := k) (by omega)
      have HR1 := hR.setFrom (dig k) (alOf s k) hd
      have HR2 := HR1.setTo (alOf s k) (dig k) ha
      have c1 := hR.row.cell (i := 2 + dig k) (by omega)
      have c1f := hR.row.frozen (2 + dig k)
      have c2 := HR1.row.cell (i := 258 + alOf s k) (by omega)
      have c2f := HR1.row.frozen (258 + alOf s k)
      have HR3 : RW w (((wr.setCell ⟨w.heap.size, 2 + dig k, none⟩ (.int .u8 (alOf s k : Int))).setCell ⟨w.heap.size, 258 + alOf s k, none⟩ (.int .u8 (dig k : Int)))) s.size (alOf s 0) (fromN (alOf s) (k + 1)) (toN (alOf s) (k + 1)) := HR2
      clear hR HR1 HR2
      generalize radF s.size (alOf s 0) (fromN (alOf s) k) (toN (alOf s) k) (2 + dig k) = v1 at *
      generalize radF s.size (alOf s 0) (upd (fromN (alOf s) k) (dig k) (alOf s k)) (toN (alOf s) k) (258 + alOf s k) = v2 at *
      generalize alOf s k = x at *
      generalize dig k = d at *
      go_wp2
      go_region
      all_goals go_wp2
      all_goals go_region
      all_goals go_wp2
      all_goals (
        go_roundw
        case rel => exact ⟨k + 1, by omega, by go_num, HR3.drew.drew⟩
        case measure => simp [intOf]; omega)
    · obtain rfl : k = s.size := by omega
      go_wp2
      go_ret
      exact ⟨rfl, hR⟩

def zeros : Array Value := Array.replicate 256 (.int .u8 0)
theorem run_zero31 (W : World) : (zeroValue 31).run Try.prog W = .ok (.agg zeros) W := by kernel_rfl
theorem size31 : (Try.prog.info? 31).map (·.size) = some 256 := by kernel_rfl
/-- An array of 256 bytes. -/
def arr (f : Nat → Nat) : List Value := (List.range 256).map fun j => .int .u8 (f j : Int)
theorem arr_length (f : Nat → Nat) : (arr f).length = 256 := by simp [arr]
theorem arr_one (f : Nat → Nat) : ∀ v ∈ arr f, v.oneCell' = true := by
  intro v hv
  obtain ⟨j, _, rfl⟩ := List.mem_map.1 hv
  rfl
theorem arr_get (f : Nat → Nat) (j : Nat) (hj : j < 256) : (arr f)[j]? = some (.int .u8 (f j : Int)) := by
  simp [arr, hj]
theorem RW.ranges {w wr : World} {base zer : Nat} {f t : Nat → Nat} (h : RW w wr base zer f t) :
    wr.cell? ⟨w.heap.size, 0, none⟩ = some (.int .i64 (base : Int)) ∧ wr.cell? ⟨w.heap.size, 1, none⟩ = some (.int .u8 (zer : Int)) ∧ wr.rangeAt w.heap.size 2 (arr f) ∧ wr.rangeAt w.heap.size 258 (arr t) := by
  refine ⟨h.row.cell (i := 0) (by omega), h.row.cell (i := 1) (by omega), fun j v hj => ?_, fun j v hj => ?_⟩
  · have hl := (List.getElem?_eq_some_iff.1 hj).1
    rw [arr_length] at hl
    rw [arr_get f j hl] at hj
    rw [h.row.cell (i := 2 + j) (by omega), ← hj]
    unfold radF
    rw [if_neg (by omega), if_neg (by omega), if_pos (by omega), Nat.add_sub_cancel_left]
  · have hl := (List.getElem?_eq_some_iff.1 hj).1
    rw [arr_length] at hl
    rw [arr_get t j hl] at hj
    rw [h.row.cell (i := 258 + j) (by omega), ← hj]
    unfold radF
    rw [if_neg (by omega), if_neg (by omega), if_neg (by omega), Nat.add_sub_cancel_left]

theorem there_zeros {w : World} {b : Nat} (h : w.heap[b]? = some (.cells zeros 31)) : w.there b 0 256 := fun j hj => by
  refine ⟨?_, ?_⟩
  · rw [Nat.zero_add, cell_of_row w b j zeros 31 (0, 0) h]
    simp [zeros, hj]
  · simp [World.frozen?, h]
theorem cell_setCells_far (b : Nat) (o : Nat) (vs : List Value) (w : World) (x : Addr) (hx : x.block ≠ b) : (w.setCells b o vs).cell? x = w.cell? x :=
  World.cell?_setCells_out b vs o w x (fun h => absurd h hx)


end Go.Proofs.Qxb6601964a.Rad
