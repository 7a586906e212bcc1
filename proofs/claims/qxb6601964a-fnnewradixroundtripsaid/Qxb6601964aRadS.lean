/- THE WALK of FnNewRadixSpec. -/
import Derived.Test.Qxb6601964aRadZ
import Derived.Test.Qxb6601964aRows
import Derived.ProofKit
import Derived.ShutString
import Derived.ChangeOld
import Derived.Below
namespace Go.Proofs.Qxb6601964a.Rad
open Go.ChangeShapes Go.WideShapes Go.ChangeAt Go.RowKit
open Go.ChangeMaps (open_string shut_string)
set_option linter.unusedVariables false

theorem fromN_hit (al : Nat → Nat) (k b : Nat) (h : dig k = b) : fromN al (k + 1) b = al k := by simp [fromN, upd, h]
theorem fromN_miss (al : Nat → Nat) (k b : Nat) (h : dig k ≠ b) : fromN al (k + 1) b = fromN al k b := by
  have h' : ¬ b = dig k := fun e => h e.symm
  simp [fromN, upd, h']
theorem toN_hit (al : Nat → Nat) (k b : Nat) (h : al k = b) : toN al (k + 1) b = dig k := by simp [toN, upd, h]
theorem toN_miss (al : Nat → Nat) (k b : Nat) (h : al k ≠ b) : toN al (k + 1) b = toN al k b := by
  have h' : ¬ b = al k := fun e => h e.symm
  simp [toN, upd, h']
theorem toN_skip (al : Nat → Nat) (b m : Nat) : ∀ n, m ≤ n → (∀ u, m ≤ u → u < n → al u ≠ b) → toN al n b = toN al m b := by
  intro n
  induction n with
  | zero => intro h _; rw [show m = 0 by omega]
  | succ n ih =>
    intro h hu
    by_cases e : m = n + 1
    · subst e; rfl
    · rw [toN_miss al n b (hu n (by omega) (by omega))]
      exact ih (by omega) (fun u h1 h2 => hu u h1 (by omega))
theorem fromN_lt (al : Nat → Nat) (h : ∀ v, al v < 256) (b : Nat) : ∀ k, fromN al k b < 256 := by
  intro k
  induction k with
  | zero => simp [fromN]
  | succ k ih => by_cases e : dig k = b
                 · rw [fromN_hit al k b e]; exact h k
                 · rw [fromN_miss al k b e]; exact ih
theorem fromN_dig (al : Nat → Nat) (v : Nat) : ∀ n, v < n → n ≤ 62 → fromN al n (dig v) = al v := by
  intro n
  induction n with
  | zero => intro h; omega
  | succ n ih =>
    intro h h62
    by_cases e : v = n
    · subst e; exact fromN_hit al v _ rfl
    · rw [fromN_miss al n _ (fun hh => e (dig_inj (by omega) (by omega) hh).symm)]
      exact ih (by omega) (by omega)
theorem toN_al (al : Nat → Nat) (v : Nat) : ∀ n, v < n → (∀ u, v < u → u < n → al u ≠ al v) → toN al n (al v) = dig v := by
  intro n
  induction n with
  | zero => intro h; omega
  | succ n ih =>
    intro h hu
    by_cases e : v = n
    · subst e; exact toN_hit al v _ rfl
    · rw [toN_miss al n _ (hu n (by omega) (by omega))]
      exact ih (by omega) (fun u h1 h2 => hu u h1 (by omega))

set_option maxHeartbeats 400000 in
theorem zzBytes21_any (s : ByteArray) (w : World) (hs : s.size ≤ 9223372036854775807) :
    Calls Try.prog 21 #[.string s] w fun e w' => e = .returned (.bool (decide (s.size ≤ 1048576))) ∧ w' = w := by
  by_cases h : s.size ≤ 1048576
  · rw [decide_eq_true h]
    go_enter Try.func21, Try.ntmps21
    go_wp2
    go_ret
    exact ⟨rfl, rfl⟩
  · rw [decide_eq_false h]
    go_enter Try.func21, Try.ntmps21
    go_wp2
    go_ret
    exact ⟨rfl, rfl⟩
set_option maxHeartbeats 400000 in
theorem zzBytes23_any (s : ByteArray) (w : World) (hs : s.size ≤ 9223372036854775807) :
    Calls Try.prog 23 #[.string s] w fun e w' => e = .returned (.bool (decide (s.size ≤ 1048576))) ∧ w' = w := by
  by_cases h : s.size ≤ 1048576
  · rw [decide_eq_true h]
    go_enter Try.func23, Try.ntmps23
    go_wp2
    go_ret
    exact ⟨rfl, rfl⟩
  · rw [decide_eq_false h]
    go_enter Try.func23, Try.ntmps23
    go_wp2
    go_ret
    exact ⟨rfl, rfl⟩

/-- The two arrays laid into variables of the law's own. -/
theorem laid_two (w2 : World) (f t : Nat → Nat) (sz : Nat) (hsz : sz = 256) :
    ((storeCells ⟨w2.heap.size, 0, none⟩ (arr f) 0).run Try.prog ((w2.alloc (.cells zeros 31)).alloc (.cells zeros 31)) = .ok () (((w2.alloc (.cells zeros 31)).alloc (.cells zeros 31)).setCells w2.heap.size 0 (arr f))) ∧
    ((storeCells ⟨w2.heap.size + 1, 0, none⟩ (arr t) 0).run Try.prog (((w2.alloc (.cells zeros 31)).alloc (.cells zeros 31)).setCells w2.heap.size 0 (arr f)) = .ok () ((((w2.alloc (.cells zeros 31)).alloc (.cells zeros 31)).setCells w2.heap.size 0 (arr f)).setCells (w2.heap.size + 1) 0 (arr t))) ∧
    (∀ j, j < 256 → ((((w2.alloc (.cells zeros 31)).alloc (.cells zeros 31)).setCells w2.heap.size 0 (arr f)).setCells (w2.heap.size + 1) 0 (arr t)).cell? ⟨w2.heap.size, j, none⟩ = some (.int .u8 (f j : Int))) ∧
    (∀ j, j < 256 → ((((w2.alloc (.cells zeros 31)).alloc (.cells zeros 31)).setCells w2.heap.size 0 (arr f)).setCells (w2.heap.size + 1) 0 (arr t)).cell? ⟨w2.heap.size + 1, j, none⟩ = some (.int .u8 (t j : Int))) ∧
    Below w2.heap.size w2 ((((w2.alloc (.cells zeros 31)).alloc (.cells zeros 31)).setCells w2.heap.size 0 (arr f)).setCells (w2.heap.size + 1) 0 (arr t)) := by
  have q4 : ((w2.alloc (.cells zeros 31)).alloc (.cells zeros 31)).heap[w2.heap.size]? = some (.cells zeros 31) := by rw [Below.heap_alloc _ _ _ (by simp)]; exact heap_alloc_new _ _
  have q5 : ((w2.alloc (.cells zeros 31)).alloc (.cells zeros 31)).heap[w2.heap.size + 1]? = some (.cells zeros 31) := by have := heap_alloc_new (w2.alloc (.cells zeros 31)) (.cells zeros 31); simpa using this
  have t4 := there_zeros q4
  have t5 := World.there_setCells (there_zeros q5) w2.heap.size 0 (arr f)
  have stGen : ∀ (W : World) (b : Nat) (A : List Value), W.there b 0 256 → A.length = 256 → (∀ v ∈ A, v.oneCell' = true) → (storeCells ⟨b, 0, none⟩ A 0).run Try.prog W = .ok () (W.setCells b 0 A) := fun W b A ht hl h1 => by
    have := run_storeCells_cells (P := Try.prog) b 0 A 0 W (fun j hj => (ht j (by omega)).1) (fun j hj => (ht j (by omega)).2) h1
    simpa using this
  have r1 : World.rangeAt _ w2.heap.size 0 (arr f) := World.rangeAt_setCells_same _ _ _ _ (by rw [arr_length]; exact t4)
  have r1' := World.rangeAt_setCells_apart r1 (w2.heap.size + 1) 0 (arr t) (.inl (by omega))
  have r2 : World.rangeAt _ (w2.heap.size + 1) 0 (arr t) := World.rangeAt_setCells_same _ _ _ _ (by rw [arr_length]; exact t5)
  refine ⟨stGen _ _ _ t4 (arr_length f) (arr_one f), stGen _ _ _ t5 (arr_length t) (arr_one t), fun j hj => ?_, fun j hj => ?_, ?_⟩
  · have := r1' j _ (arr_get f j hj); rwa [Nat.zero_add] at this
  · have := r2 j _ (arr_get t j hj); rwa [Nat.zero_add] at this
  · exact below_setCells (by omega) _ _ (below_setCells (Nat.le_refl _) _ _ (((Below.refl _ _).alloc (Nat.le_refl _) _).alloc (by simp) _))

/-- What the search from the back holds: nothing found above m; or the answer. -/
def ToRel (al : Nat → Nat) (n b m : Nat) (x f : Value) : Prop :=
  (f = .bool false ∧ x = .int .u8 0 ∧ ∀ u, m ≤ u → u < n → al u ≠ b) ∨ (f = .bool true ∧ x = .int .u8 (toN al n b : Int))

set_option maxRecDepth 10000 in
set_option maxHeartbeats 1000000 in
theorem walkSpec (s : ByteArray) (hs0 : s.size ≤ maxLen) (w : World) :
    Calls Try.prog 9 #[.string s] w fun e w' => e = .returned (.bool true) ∧ Below w.heap.size w w' := by
  unfold maxLen at hs0
  by_cases hs : s.size ≤ 1048576
  · by_cases h2 : (s.size : Int) < 2
    · go_enter Try.func9, Try.ntmps9
      go_wp2_with (go_at_call 21; refine (zzBytes21_any s _ (by omega)).mono ?_; rintro e w1 ⟨rfl, rfl⟩; rw [decide_eq_true hs])
      go_ret
      exact ⟨rfl, Below.refl _ _⟩
    by_cases h62 : (62 : Int) < (s.size : Int)
    · go_enter Try.func9, Try.ntmps9
      go_wp2_with (go_at_call 21; refine (zzBytes21_any s _ (by omega)).mono ?_; rintro e w1 ⟨rfl, rfl⟩; rw [decide_eq_true hs])
      go_ret
      exact ⟨rfl, Below.refl _ _⟩
    have h2' : 2 ≤ s.size := by omega
    have h62' : s.size ≤ 62 := by omega
    have hal := alOf_lt s
    have hz := run_zero31
    obtain ⟨sz, hsz⟩ : ∃ sz : Nat, sz = 256 := ⟨_, rfl⟩
    have hA : ∀ W : World, (isAgg 31).run Try.prog W = .ok true W := fun W => by kernel_rfl
    have hZ : ∀ W : World, (sizeOf 31).run Try.prog W = .ok sz W := fun W => by rw [hsz]; kernel_rfl
    have hi0 : ∀ W : World, (Instr.index 9 (.string s) (.int .i64 0)).run Try.prog W = .ok (.int .u8 (alOf s 0 : Int)) W := fun W => index_al s 0 (by omega) W
    have hL1 : (arr (fromN (alOf s) s.size)).length = sz := by rw [arr_length, hsz]
    have hL2 : (arr (toN (alOf s) s.size)).length = sz := by rw [arr_length, hsz]
    have hd2 : decide ((s.size : Int) < 2) = false := decide_eq_false h2
    have hd62 : decide ((62 : Int) < (s.size : Int)) = false := decide_eq_false h62
    go_enter Try.func9, Try.ntmps9
    go_wp2_with (first
      | (go_at_call 21; refine (zzBytes21_any s _ (by omega)).mono ?_; rintro e w1 ⟨rfl, rfl⟩; rw [decide_eq_true hs])
      | (go_at_call 22; refine (zzNewRadix_any s _ h2' h62').mono ?_; rintro e w2 ⟨rfl, hb2⟩; obtain ⟨st1, st2, hc1, hc2, hb3⟩ := laid_two w2 (fromN (alOf s) s.size) (toN (alOf s) s.size) sz hsz))
    have hbel := hb2.trans (hb3.mono hb2.size)
    clear hb2 hb3 st1 st2 hz hA hZ hL1 hL2 hsz hi0 hd2 hd62
    generalize (((w2.alloc (.cells zeros 31)).alloc (.cells zeros 31)).setCells w2.heap.size 0 (arr (fromN (alOf s) s.size))).setCells (w2.heap.size + 1) 0 (arr (toN (alOf s) s.size)) = wv at *
    generalize w2.heap.size = N at *
    go_loop [8] (fun i => ∃ b : Nat, b ≤ 256 ∧ i = .int .i64 b) (fun i => 256 - (intOf i).toNat)
    case atStart => exact ⟨0, by omega, rfl⟩
    case round =>
      obtain ⟨b, hb, rfl⟩ := hrel
      by_cases hlt : b < 256
      · have hcf := hc1 b hlt
        have hct := hc2 b hlt
        clear hc1 hc2
        go_wp2
        -- the first inner loop
        go_loop [9, 10] (fun x j => ∃ m : Nat, m ≤ s.size ∧ j = .int .i64 m ∧ x = .int .u8 (fromN (alOf s) m b)) (fun _ j => s.size - (intOf j).toNat)
        case atStart => exact ⟨0, Nat.zero_le _, rfl, rfl⟩
        case round =>
          obtain ⟨m, hm, rfl, rfl⟩ := hrel
          by_cases hml : m < s.size
          · have i1 := index_dig m (by omega)
            have i2 := index_al s m hml
            have hdl := dig_lt (v := m) (by omega)
            by_cases hd : dig m = b
            · have HH : Hid (fromN (alOf s) (m + 1) b = alOf s m) := fromN_hit _ _ _ hd
              have hq : ((dig m : Int) == (b : Int)) = true := by simp [hd]
              clear hd
              generalize dig m = d at *
              go_wp2
              go_round
              case rel => exact ⟨m + 1, by omega, by go_num, by rw [HH.out]⟩
              case measure => simp [intOf]; omega
            · have HH : Hid (fromN (alOf s) (m + 1) b = fromN (alOf s) m b) := fromN_miss _ _ _ hd
              have hq : ((dig m : Int) == (b : Int)) = false := beq_eq_false_iff_ne.2 (by omega)
              clear hd
              generalize dig m = d at *
              go_wp2
              go_round
              case rel => exact ⟨m + 1, by omega, by go_num, by rw [HH.out]⟩
              case measure => simp [intOf]; omega
          · obtain rfl : m = s.size := by omega
            have hq : ((fromN (alOf s) s.size b : Int) != (fromN (alOf s) s.size b : Int)) = false := by simp
            go_wp2
            clear hcf
            -- the second inner loop
            go_loop [11, 12, 13] (fun x f j => ∃ m : Nat, m ≤ s.size ∧ j = .int .i64 ((m : Int) - 1) ∧ ToRel (alOf s) s.size b m x f) (fun _ _ j => (intOf j + 1).toNat)
            case atStart => exact ⟨s.size, Nat.le_refl _, rfl, .inl ⟨rfl, rfl, fun u h1 h2 => by omega⟩⟩
            case round =>
              obtain ⟨m, hm, rfl, hrel⟩ := hrel
              rcases hrel with ⟨rfl, rfl, hno⟩ | ⟨rfl, rfl⟩
              · match m, hm, hno with
                | 0, hm, hno =>
                  have HE : Hid (toN (alOf s) s.size b = 0) := toN_skip (alOf s) b 0 s.size (Nat.zero_le _) hno
                  rw [HE.out] at hct
                  clear hno
                  go_wp2
                  go_round
                  case rel => exact ⟨b + 1, by omega, by go_num⟩
                  case measure => simp [intOf]; omega
                | m + 1, hm, hno =>
                  rw [show (((m + 1 : Nat) : Int) - 1) = (m : Int) by omega]
                  have i1 := index_dig m (by omega)
                  have i2 := index_al s m (by omega)
                  have hdl := dig_lt (v := m) (by omega)
                  have hml := hal m
                  by_cases hd : alOf s m = b
                  · have HE : Hid (toN (alOf s) s.size b = dig m) := (toN_skip (alOf s) b (m + 1) s.size (by omega) hno).trans (toN_hit _ _ _ hd)
                    have hq2 : ((alOf s m : Int) == (b : Int)) = true := by simp [hd]
                    clear hno hd hal
                    go_wp2
                    go_round
                    case rel => exact ⟨m, by omega, rfl, .inr ⟨rfl, by rw [HE.out]⟩⟩
                    case measure => simp [intOf]
                  · have hq2 : ((alOf s m : Int) == (b : Int)) = false := beq_eq_false_iff_ne.2 (by omega)
                    have HN : Hid (∀ u, m ≤ u → u < s.size → alOf s u ≠ b) := fun u h1 h2 => by
                      by_cases e : u = m
                      · subst e; exact hd
                      · exact hno u (by omega) h2
                    clear hno hd hal
                    go_wp2
                    go_round
                    case rel => exact ⟨m, by omega, rfl, .inl ⟨rfl, rfl, HN.out⟩⟩
                    case measure => simp [intOf]
              · by_cases hm1 : m = 0
                · subst hm1
                  go_wp2
                  go_round
                  case rel => exact ⟨b + 1, by omega, by go_num⟩
                  case measure => simp [intOf]; omega
                · have hge : (0 : Int) ≤ (m : Int) - 1 := by omega
                  go_wp2
                  go_round
                  case rel => exact ⟨b + 1, by omega, by go_num⟩
                  case measure => simp [intOf]; omega
      · go_wp2
        go_ret
        exact ⟨rfl, hbel⟩
  · go_enter Try.func9, Try.ntmps9
    go_wp2_with (go_at_call 21; refine (zzBytes21_any s _ (by omega)).mono ?_; rintro e w1 ⟨rfl, rfl⟩; rw [decide_eq_false hs])
    go_ret
    exact ⟨rfl, Below.refl _ _⟩

end Go.Proofs.Qxb6601964a.Rad
