/- THE WALKS of lowerASCII and of FnLowerASCIIByTable. -/
import Derived.Test.Qxb6601964aRows
import Derived.WalkKit
import Derived.WalkSpells
import Derived.WalkLawsBesides
import Derived.WalkSmall
import Derived.Lib.ConvBytes
import Derived.Deep.QuietTactic
import Derived.BigQuiet
import Derived.ProofKit
import Derived.ShutString
import Derived.ChangeOld
import Derived.Below
namespace Go.Proofs.Qxb6601964a.Low
open Go.ChangeShapes Go.WideShapes Go.ChangeAt Go.RowKit
open Go.ChangeMaps (open_string shut_string)
set_option linter.unusedVariables false

/-- One byte, lowered. -/
def lowN (c : Nat) : Nat := if 65 ≤ c ∧ c ≤ 90 then c + 32 else c
theorem lowN_lt {c : Nat} (h : c < 256) : lowN c < 256 := by unfold lowN; split <;> omega
/-- The bytes of s, the first k lowered. -/
def lowAt (s : ByteArray) (k j : Nat) : Nat := if j < k then lowN (s.data.toList.getD j 0).toNat else (s.data.toList.getD j 0).toNat

/-- The world in lowerASCII's loop. -/
structure LW (w wr : World) (n : Nat) (f : Nat → Nat) : Prop where
  below : Below w.heap.size w wr
  cell : ∀ j, j < n → wr.cell? ⟨w.heap.size, j, none⟩ = some (.int .u8 (f j : Int))
  fz : ∀ j, j < n → wr.frozen? ⟨w.heap.size, j, none⟩ = false
theorem LW.start (w : World) (s : ByteArray) : LW w (Lib.bytesWorld w 5 s) s.size (lowAt s 0) := by
  refine ⟨⟨rfl, rfl, rfl, by rw [Lib.bytesWorld_size]; omega, fun k hk => Lib.bytesWorld_at_old _ _ _ _ hk⟩, fun j hj => ?_, fun j hj => ?_⟩
  · rw [Lib.bytesWorld_cell w 5 s j hj]; simp [lowAt]
  · have h1 : (Lib.bytesCells w 5 s).size ≥ s.size := by simp [Lib.bytesCells]
    simp only [World.frozen?, Lib.bytesWorld_at_new]
    simp
    omega
theorem LW.store {w wr : World} {n k : Nat} {f g : Nat → Nat} (h : LW w wr n f) (hk : k < n) (x : Int) (hx : x = (g k : Int)) (hg : ∀ j, j < n → j ≠ k → g j = f j) : LW w (wr.setCell ⟨w.heap.size, k, none⟩ (.int .u8 x)) n g := by
  refine ⟨h.below.setCell (Nat.le_refl _) _, fun j hj => ?_, fun j hj => by rw [World.frozen?_setCell]; exact h.fz j hj⟩
  by_cases e : j = k
  · subst e; rw [World.cell?_setCell_same _ _ _ (h.cell j hj), hx]
  · rw [World.cell?_setCell_other _ _ _ _ (fun hh => e (by injection hh with _ h2 _; exact h2.symm)), h.cell j hj, hg j hj e]
theorem LW.congr {w wr : World} {n : Nat} {f g : Nat → Nat} (h : LW w wr n f) (hg : ∀ j, j < n → f j = g j) : LW w wr n g :=
  ⟨h.below, fun j hj => by rw [h.cell j hj, hg j hj], h.fz⟩

/-- WHAT lowerASCII ANSWERS. -/
def IsLow (s t : ByteArray) : Prop := t.size = s.size ∧ ∀ i (h1 : i < t.size) (h2 : i < s.size), t[i].toNat = lowN s[i].toNat

theorem low_list (s : ByteArray) (j : Nat) (hj : j < s.size) : s.data.toList.getD j 0 = s[j] := by
  have : j < s.data.toList.length := by simpa using hj
  rw [List.getD_eq_getElem?_getD, List.getElem?_eq_getElem this]
  rfl
theorem low_out {w wr : World} {s : ByteArray} (h : LW w wr s.size (lowAt s s.size)) : ∃ l : List UInt8, l.length = s.size ∧ IsLow s ⟨l.toArray⟩ ∧ ∀ j (hj : j < l.length), wr.cell? ((⟨w.heap.size, 0, none⟩ : Addr).add j) = some (.int .u8 (l[j].toNat : Int)) := by
  refine ⟨s.data.toList.map (fun c => UInt8.ofNat (lowN c.toNat)), by simp, ⟨by show (Array.size _) = _; simp, fun i h1 h2 => ?_⟩, fun j hj => ?_⟩
  · have hlt := lowN_lt (c := s[i].toNat) (UInt8.toNat_lt _)
    show ((s.data.toList.map (fun c => UInt8.ofNat (lowN c.toNat))).toArray[i]'_).toNat = _
    simp only [List.getElem_toArray, List.getElem_map, Array.getElem_toList]
    show (UInt8.ofNat (lowN (s[i]).toNat)).toNat = _
    rw [UInt8.toNat_ofNat', Nat.mod_eq_of_lt hlt]
  · have hj' : j < s.size := by simpa using hj
    rw [Addr.add_lit, Nat.zero_add, h.cell j hj']
    have hlt := lowN_lt (c := s[j].toNat) (UInt8.toNat_lt _)
    simp only [List.getElem_map, Array.getElem_toList]
    show some (Value.int .u8 (lowAt s s.size j : Int)) = some (.int .u8 ((UInt8.ofNat (lowN (s[j]).toNat)).toNat : Int))
    rw [UInt8.toNat_ofNat', Nat.mod_eq_of_lt hlt, lowAt, if_pos hj', low_list s j hj']

set_option maxHeartbeats 400000 in
theorem lower_any (s : ByteArray) (w : World) (hs : s.size ≤ 1048576) :
    Calls Try.prog 25 #[.string s] w fun e w' => ∃ t : ByteArray, e = .returned (.string t) ∧ IsLow s t ∧ Below w.heap.size w w' := by
  have hcv := fun W => Lib.run_convert_string_bytes (P := Try.prog) W 9 22 5 s Try.underlying9 Try.underlying22 Try.underlying5
  go_enter Try.func25, Try.ntmps25
  go_wp2
  have H0 := LW.start w s
  generalize grownCap w s.size 0 5 = cp at *
  clear hcv
  go_loopw [10] (fun i wr => ∃ k : Nat, k ≤ s.size ∧ i = .int .i64 k ∧ LW w wr s.size (lowAt s k)) (fun i _ => s.size - (intOf i).toNat)
  case atStart => exact ⟨0, Nat.zero_le _, rfl, H0⟩
  case round =>
    obtain ⟨k, hk, rfl, hW⟩ := hrel
    clear H0
    by_cases hlt : k < s.size
    · have hc := hW.cell k hlt
      have hf := hW.fz k hlt
      have e1 : lowAt s k k = (s.data.toList.getD k 0).toNat := by simp [lowAt]
      have hb : (s.data.toList.getD k 0).toNat < 256 := UInt8.toNat_lt _
      rw [e1] at hc
      have HS : ∀ x : Int, x = (lowN (s.data.toList.getD k 0).toNat : Int) → LW w (wr.setCell ⟨w.heap.size, k, none⟩ (.int .u8 x)) s.size (lowAt s (k + 1)) := fun x hx => hW.store hlt x (by rw [hx]; simp [lowAt]) (fun j _ hne => by
        simp only [lowAt]
        by_cases h : j < k
        · rw [if_pos h, if_pos (by omega)]
        · rw [if_neg h, if_neg (by omega)])
      have HK : Hid (lowN (s.data.toList.getD k 0).toNat = (s.data.toList.getD k 0).toNat → LW w wr s.size (lowAt s (k + 1))) := fun hh => hW.congr (fun j _ => by
        simp only [lowAt]
        by_cases h : j < k
        · rw [if_pos h, if_pos (by omega)]
        · rw [if_neg h]
          by_cases e : j = k
          · subst e; rw [if_pos (by omega), hh]
          · rw [if_neg (by omega)])
      generalize (s.data.toList.getD k 0).toNat = c at *
      have hlow : Hid (lowN c = if 65 ≤ c ∧ c ≤ 90 then c + 32 else c) := rfl
      clear e1 hW
      by_cases h1 : 65 ≤ c
      · by_cases h2 : c ≤ 90
        · go_wp2
          go_roundw
          case rel => exact ⟨k + 1, by omega, by go_num, HS _ (by rw [hlow.out, if_pos ⟨h1, h2⟩]; omega)⟩
          case measure => simp [intOf]; omega
        · go_wp2
          go_roundw
          case rel => exact ⟨k + 1, by omega, by go_num, HK.out (by rw [hlow.out, if_neg (by omega)])⟩
          case measure => simp [intOf]; omega
      · go_wp2
        go_roundw
        case rel => exact ⟨k + 1, by omega, by go_num, HK.out (by rw [hlow.out, if_neg (by omega)])⟩
        case measure => simp [intOf]; omega
    · obtain rfl : k = s.size := by omega
      obtain ⟨l, hl, hlow, hcell⟩ := low_out hW
      have hbel := hW.below
      have hback := run_convert_bytes_back (P := Try.prog) wr 22 9 5 ⟨w.heap.size, 0, none⟩ cp l Try.underlying22 Try.underlying5 Try.underlying9 hcell
      rw [hl] at hback
      clear hW hcell
      go_wp2
      go_ret
      exact ⟨_, rfl, hlow, hbel⟩

set_option maxHeartbeats 400000 in
theorem zzLower_any (s : ByteArray) (w : World) (hs : s.size ≤ 1048576) :
    Calls Try.prog 18 #[.string s] w fun e w' => ∃ t : ByteArray, e = .returned (.string t) ∧ IsLow s t ∧ Below w.heap.size w w' := by
  go_enter Try.func18, Try.ntmps18
  go_wp2_with (go_at_call 25; refine (lower_any s _ hs).mono ?_; rintro e w1 ⟨t, rfl, ht, hb⟩)
  go_ret
  exact ⟨t, rfl, ht, hb⟩

def upper : ByteArray := ⟨#[65, 66, 67, 68, 69, 70, 71, 72, 73, 74, 75, 76, 77, 78, 79, 80, 81, 82, 83, 84, 85, 86, 87, 88, 89, 90]⟩
def lowerT : ByteArray := ⟨#[97, 98, 99, 100, 101, 102, 103, 104, 105, 106, 107, 108, 109, 110, 111, 112, 113, 114, 115, 116, 117, 118, 119, 120, 121, 122]⟩
theorem index_at (s : ByteArray) (k : Nat) (hk : k < s.size) (W : World) : (Instr.index 9 (.string s) (.int .i64 (k : Int))).run Try.prog W = .ok (.int .u8 (s[k].toNat : Int)) W := by
  rw [run_index_string W 9 s .i64 k Try.underlying9, dif_pos ⟨by omega, by omega⟩]
  simp
theorem upper_at (k : Nat) (hk : k < 26) : (upper[k]'hk).toNat = 65 + k := by
  have h : ∀ k : Fin 26, (upper[k.1]'k.2).toNat = 65 + k.1 := by decide
  exact h ⟨k, hk⟩
theorem lower_at (k : Nat) (hk : k < 26) : (lowerT[k]'hk).toNat = 97 + k := by
  have h : ∀ k : Fin 26, (lowerT[k.1]'k.2).toNat = 97 + k.1 := by decide
  exact h ⟨k, hk⟩
theorem index_upper (k : Nat) (hk : k < 26) (W : World) : (Instr.index 9 (.string ⟨#[65, 66, 67, 68, 69, 70, 71, 72, 73, 74, 75, 76, 77, 78, 79, 80, 81, 82, 83, 84, 85, 86, 87, 88, 89, 90]⟩) (.int .i64 (k : Int))).run Try.prog W = .ok (.int .u8 (65 + (k : Int))) W := by
  have := index_at upper k hk W
  rw [upper_at k hk] at this
  exact this
theorem index_lower (k : Nat) (hk : k < 26) (W : World) : (Instr.index 9 (.string ⟨#[97, 98, 99, 100, 101, 102, 103, 104, 105, 106, 107, 108, 109, 110, 111, 112, 113, 114, 115, 116, 117, 118, 119, 120, 121, 122]⟩) (.int .i64 (k : Int))).run Try.prog W = .ok (.int .u8 (97 + (k : Int))) W := by
  have := index_at lowerT k hk W
  rw [lower_at k hk] at this
  exact this

/-- What the law's table gives after m letters. -/
def tabN (c m : Nat) : Nat := if 65 ≤ c ∧ c < 65 + m then c + 32 else c
theorem tab_zero (c : Nat) : tabN c 0 = c := by unfold tabN; rw [if_neg (by omega)]
theorem tab_hit (c m : Nat) (h : c = 65 + m) : tabN c (m + 1) = 97 + m := by unfold tabN; rw [if_pos (by omega)]; omega
theorem tab_miss (c m : Nat) (h : c ≠ 65 + m) : tabN c (m + 1) = tabN c m := by
  unfold tabN
  by_cases h1 : 65 ≤ c ∧ c < 65 + m
  · rw [if_pos h1, if_pos (by omega)]
  · rw [if_neg h1, if_neg (by omega)]
theorem tab_end (c : Nat) : tabN c 26 = lowN c := by
  unfold tabN lowN
  by_cases h1 : 65 ≤ c ∧ c ≤ 90
  · rw [if_pos (by omega), if_pos h1]
  · rw [if_neg (by omega), if_neg h1]

set_option maxHeartbeats 400000 in
theorem zzBytes_any (s : ByteArray) (w : World) (hs : s.size ≤ 9223372036854775807) :
    Calls Try.prog 17 #[.string s] w fun e w' => e = .returned (.bool (decide (s.size ≤ 1048576))) ∧ w' = w := by
  by_cases h : s.size ≤ 1048576
  · rw [decide_eq_true h]
    go_enter Try.func17, Try.ntmps17
    go_wp2
    go_ret
    exact ⟨rfl, rfl⟩
  · rw [decide_eq_false h]
    go_enter Try.func17, Try.ntmps17
    go_wp2
    go_ret
    exact ⟨rfl, rfl⟩

set_option maxHeartbeats 1000000 in
theorem walk (s : ByteArray) (hs0 : s.size ≤ maxLen) (w : World) :
    Calls Try.prog 6 #[.string s] w fun e w' => e = .returned (.bool true) ∧ Below w.heap.size w w' := by
  unfold maxLen at hs0
  by_cases hs : s.size ≤ 1048576
  · go_enter Try.func6, Try.ntmps6
    go_wp2_with fail
    refine (zzBytes_any s _ (by omega)).mono ?_
    rintro e w1 ⟨rfl, rfl⟩
    rw [decide_eq_true hs]
    go_wp2_with fail
    refine (zzLower_any s _ hs).mono ?_
    rintro e w2 ⟨t, rfl, ⟨ht, htl⟩, hb2⟩
    have hne : ((t.size : Int) != (s.size : Int)) = false := by simp [ht]
    have HT : Hid (∀ k, k < s.size → k < t.size) := fun k hk => by rw [ht]; exact hk
    clear ht
    go_wp2_with fail
    go_loopw [4] (fun i wr => ∃ k : Nat, k ≤ s.size ∧ i = .int .i64 k ∧ Below w1.heap.size w1 wr) (fun i _ => s.size - (intOf i).toNat)
    case atStart => exact ⟨0, Nat.zero_le _, rfl, hb2⟩
    case round =>
      obtain ⟨k, hk, rfl, hb⟩ := hrel
      clear hb2
      by_cases hlt : k < s.size
      · have hkt := HT.out k hlt
        have hsi := index_at s k hlt
        have hti := index_at t k hkt
        rw [htl k hkt hlt] at hti
        have hcb : s[k].toNat < 256 := UInt8.toNat_lt _
        clear htl HT
        generalize s[k].toNat = c at *
        go_wp2
        obtain ⟨wo, rfl⟩ : ∃ wo : World, wo = wr := ⟨_, rfl⟩
        go_loopw [5, 6] (fun x j wr => ∃ m : Nat, m ≤ 26 ∧ j = .int .i64 m ∧ x = .int .u8 (tabN c m) ∧ Below w1.heap.size w1 wr) (fun _ j _ => 26 - (intOf j).toNat)
        case atStart => exact ⟨0, by omega, rfl, by rw [tab_zero], hb⟩
        case round =>
          clear hb
          obtain ⟨m, hm, rfl, rfl, hb⟩ := hrel
          by_cases hml : m < 26
          · have hu := index_upper m hml
            have hl := index_lower m hml
            by_cases hc : c = 65 + m
            · have H1 : Hid (tabN c (m + 1) = 97 + m) := tab_hit c m hc
              have hbq : ((65 + (m : Int)) == (c : Int)) = true := by simp; omega
              clear hc
              go_wp2
              go_quiet (fail)
              go_wp2
              go_roundw
              case rel => exact ⟨m + 1, by omega, by go_num, by rw [H1.out]; go_num, below_drewN hb _⟩
              case measure => simp [intOf]; omega
            · have H1 : Hid (tabN c (m + 1) = tabN c m) := tab_miss c m hc
              have hbq : ((65 + (m : Int)) == (c : Int)) = false := beq_eq_false_iff_ne.2 (by omega)
              clear hc
              go_wp2
              go_quiet (fail)
              go_wp2
              go_roundw
              case rel => exact ⟨m + 1, by omega, by go_num, by rw [H1.out], below_drewN hb _⟩
              case measure => simp [intOf]; omega
          · obtain rfl : m = 26 := by omega
            have H1 := tab_end c
            have hbn : ((lowN c : Int) != (tabN c 26 : Int)) = false := by simp [H1]
            clear H1
            go_wp2
            go_roundw
            case rel => exact ⟨k + 1, by omega, by go_num, hb⟩
            case measure => simp [intOf]; omega
      · go_wp2
        go_ret
        exact ⟨rfl, hb⟩
  · go_enter Try.func6, Try.ntmps6
    go_wp2_with fail
    refine (zzBytes_any s _ (by omega)).mono ?_
    rintro e w1 ⟨rfl, rfl⟩
    rw [decide_eq_false hs]
    go_wp2_with fail
    go_ret
    exact ⟨rfl, Below.refl _ _⟩

/-! ### THE ROW's STEP -/
theorem own : ownKnob Try.prog.godebug = none := by kernel_rfl

set_option maxRecDepth 100000 in
theorem lifted (os : Os) (started : os.Started) (H : Type) (enc : TypeId × Value → H) :
    ReturnsInHanded {} Try.checked os 6 .any (Rows.fnLowerASCIIByTableSpec.pre6 enc Try.prog Try.f6 Rows.fnLowerASCIIByTableRow.domain false) (Rows.fnLowerASCIIByTableSpec.post enc Try.prog Try.f6 false true false false) := by
  refine returnsInHanded_of_change (C := Try.checked) own started (by kernel_rfl) Try.func6
    (ChangeSpec.witness6 (enc := enc) (C := Try.checked) false ⟨#[], #[.string ByteArray.empty], []⟩ 8 (by kernel_rfl) (by kernel_rfl) (by kernel_rfl) (by kernel_rfl)) ?_
  intro W base args ds gs before hval0 hW hcnd _
  have hval : ∀ (j : Nat) t v, Try.f6.params[j]? = some t → args[j]? = some v → Value.okWide Try.prog W .any base t v := hval0
  have hW' := hW
  obtain ⟨p, q, hA0, hV, rfl, hfz, hnd⟩ := hW
  have hA : DataW.TrodAll enc Try.prog W 0 (fun _ => true) true Try.f6.params.toList args.toList ds p := hA0
  rw [Try.params6] at hA hval
  obtain ⟨v0, vs0, d0, ds0, p0, q0, hargs, rfl, rfl, h0, r0⟩ := trodAll_cons hA
  obtain ⟨rfl, rfl, rfl⟩ := trodAll_nil r0
  obtain rfl : args = #[v0] := by cases args; simp_all
  obtain ⟨rfl, rfl⟩ := trodVars_none hV
  obtain ⟨a0, rfl, rfl, rfl, w0⟩ := open_string Try.underlying9 (hval 0 9 v0 rfl rfl) h0
  clear hA0 hval0
  refine (walk a0 w0 W).mono fun e W' ⟨he, bel⟩ => ?_
  subst he
  exact ⟨_, rfl, _, _, _, [], [], [], hW', trodAll_mk1 (shut_bool Try.underlying4 _), (trodAll_mk1 (shut_string Try.underlying9 w0)), rfl, bel.frame _, fun h => by cases h⟩

theorem over : Rows.fnLowerASCIIByTableRow.holds Try.pinned (OpenSpec.ofChange Rows.fnLowerASCIIByTableSpec) :=
  OpenClaim.holds_of_wide 6 Try.f6 rfl rfl rfl rfl rfl rfl rfl ⟨rfl, rfl, rfl, rfl, rfl⟩ rfl rfl rfl rfl rfl (by kernel_rfl) Try.func6 (by kernel_rfl)
    (of_decide_eq_true (by kernel_rfl)) (by unfold Func.isWrapper; first | (rw [if_pos (by decide +kernel)]; kernel_rfl) | (rw [if_neg (by decide +kernel)]; exact ⟨rfl, rfl⟩))
    (fun os started H enc _ => lifted os started H enc)

/-- THE STATEMENT -/
theorem proved : Rows.FnLowerASCIIByTableSaid := over
#print axioms proved

end Go.Proofs.Qxb6601964a.Low
