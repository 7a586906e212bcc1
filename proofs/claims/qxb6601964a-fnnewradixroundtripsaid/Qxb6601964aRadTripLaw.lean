/- THE WALK AND THE ROW of FnNewRadixRoundTrip. -/
import Derived.Test.Qxb6601964aRadS
namespace Go.Proofs.Qxb6601964a.RadTrip
open Go.ChangeShapes Go.WideShapes Go.ChangeAt Go.RowKit
open Go.ChangeMaps (open_string shut_string)
set_option linter.unusedVariables false
open Go.Proofs.Qxb6601964a.Rad

set_option maxRecDepth 10000 in
set_option maxHeartbeats 1000000 in
theorem walkTrip (s : ByteArray) (hs0 : s.size ≤ maxLen) (w : World) :
    Calls Try.prog 10 #[.string s] w fun e w' => e = .returned (.bool true) ∧ Below w.heap.size w w' := by
  unfold maxLen at hs0
  by_cases hs : s.size ≤ 1048576
  · by_cases h2 : (s.size : Int) < 2
    · go_enter Try.func10, Try.ntmps10
      go_wp2_with (go_at_call 23; refine (zzBytes23_any s _ (by omega)).mono ?_; rintro e w1 ⟨rfl, rfl⟩; rw [decide_eq_true hs])
      go_ret
      exact ⟨rfl, Below.refl _ _⟩
    by_cases h62 : (62 : Int) < (s.size : Int)
    · go_enter Try.func10, Try.ntmps10
      go_wp2_with (go_at_call 23; refine (zzBytes23_any s _ (by omega)).mono ?_; rintro e w1 ⟨rfl, rfl⟩; rw [decide_eq_true hs])
      go_ret
      exact ⟨rfl, Below.refl _ _⟩
    have h2' : 2 ≤ s.size := by omega
    have h62' : s.size ≤ 62 := by omega
    have hal := alOf_lt s
    have hd2 : decide ((s.size : Int) < 2) = false := decide_eq_false h2
    have hd62 : decide ((62 : Int) < (s.size : Int)) = false := decide_eq_false h62
    go_enter Try.func10, Try.ntmps10
    go_wp2_with (go_at_call 23; refine (zzBytes23_any s _ (by omega)).mono ?_; rintro e w1 ⟨rfl, rfl⟩; rw [decide_eq_true hs])
    clear hd2 hd62
    -- are the bytes distinct?
    go_loopw [4] (fun i wr => ∃ k : Nat, k ≤ s.size ∧ i = .int .i64 k ∧ Below w1.heap.size w1 wr ∧ ∀ u v, u < v → v < k → alOf s u ≠ alOf s v) (fun i _ => s.size - (intOf i).toNat)
    case atStart => exact ⟨0, Nat.zero_le _, rfl, Below.refl _ _, fun u v _ h => by omega⟩
    case round =>
      obtain ⟨k, hk, rfl, hb, hdis⟩ := hrel
      by_cases hlt : k < s.size
      · go_wp2
        obtain ⟨wo, rfl⟩ : ∃ wo : World, wo = wr := ⟨_, rfl⟩
        go_loopw [5] (fun j wr => ∃ m : Nat, m ≤ k ∧ j = .int .i64 m ∧ Below w1.heap.size w1 wr ∧ ∀ u, u < m → alOf s u ≠ alOf s k) (fun j _ => k - (intOf j).toNat)
        case atStart => exact ⟨0, Nat.zero_le _, rfl, hb, fun u h => by omega⟩
        case round =>
          clear hb
          obtain ⟨m, hm, rfl, hb, hno⟩ := hrel
          by_cases hmk : m < k
          · have i1 := index_al s k hlt
            have i2 := index_al s m (by omega)
            by_cases he : alOf s k = alOf s m
            · have hq : ((alOf s k : Int) == (alOf s m : Int)) = true := by simp [he]
              clear he hdis hno
              go_wp2
              go_quiet (fail)
              go_wp2
              go_ret
              exact ⟨rfl, below_drewN hb _⟩
            · have hq : ((alOf s k : Int) == (alOf s m : Int)) = false := beq_eq_false_iff_ne.2 (by omega)
              have HN : Hid (∀ u, u < m + 1 → alOf s u ≠ alOf s k) := fun u h => by
                by_cases e : u = m
                · subst e; exact fun hh => he hh.symm
                · exact hno u (by omega)
              clear he hno
              go_wp2
              go_quiet (fail)
              go_wp2
              go_roundw
              case rel => exact ⟨m + 1, by omega, by go_num, below_drewN hb _, HN.out⟩
              case measure => simp [intOf]; omega
          · obtain rfl : m = k := by omega
            have HN : Hid (∀ u v, u < v → v < m + 1 → alOf s u ≠ alOf s v) := fun u v h1 h2 => by
              by_cases e : v = m
              · subst e; exact hno u h1
              · exact hdis u v h1 (by omega)
            clear hno hdis
            go_wp2
            go_roundw
            case rel => exact ⟨m + 1, by omega, by go_num, hb, HN.out⟩
            case measure => simp [intOf]; omega
      · obtain rfl : k = s.size := by omega
        have HDIS : Hid (∀ u v, u < v → v < s.size → alOf s u ≠ alOf s v) := hdis
        clear hdis
        have hz := run_zero31
        obtain ⟨sz, hsz⟩ : ∃ sz : Nat, sz = 256 := ⟨_, rfl⟩
        have hA : ∀ W : World, (isAgg 31).run Try.prog W = .ok true W := fun W => by kernel_rfl
        have hZ : ∀ W : World, (sizeOf 31).run Try.prog W = .ok sz W := fun W => by rw [hsz]; kernel_rfl
        have hi0 : ∀ W : World, (Instr.index 9 (.string ⟨#[48, 49, 50, 51, 52, 53, 54, 55, 56, 57, 97, 98, 99, 100, 101, 102, 103, 104, 105, 106, 107, 108, 109, 110, 111, 112, 113, 114, 115, 116, 117, 118, 119, 120, 121, 122, 65, 66, 67, 68, 69, 70, 71, 72, 73, 74, 75, 76, 77, 78, 79, 80, 81, 82, 83, 84, 85, 86, 87, 88, 89, 90]⟩) (.int .i64 0)).run Try.prog W = .ok (.int .u8 48) W := fun W => index_dig 0 (by omega) W
        have hL1 : (arr (fromN (alOf s) s.size)).length = sz := by rw [arr_length, hsz]
        have hL2 : (arr (toN (alOf s) s.size)).length = sz := by rw [arr_length, hsz]
        have hf0 : fromN (alOf s) s.size 48 = alOf s 0 := fromN_dig (alOf s) 0 s.size (by omega) h62'
        have hws := hb.size
        go_wp2_with (go_at_call 22; refine (zzNewRadix_any s _ h2' h62').mono ?_; rintro e w2 ⟨rfl, hb2⟩; obtain ⟨st1, st2, hc1, hc2, hb3⟩ := laid_two w2 (fromN (alOf s) s.size) (toN (alOf s) s.size) sz hsz; have hc48 := hc1 48 (by omega); rw [hf0] at hc48)
        have hbel := (hb.trans (hb2.mono hws)).trans (hb3.mono (by have := hb2.size; omega))
        clear hb hb2 hb3 st1 st2 hz hA hZ hL1 hL2 hsz hi0 hf0 hc48 hws
        generalize (((w2.alloc (.cells zeros 31)).alloc (.cells zeros 31)).setCells w2.heap.size 0 (arr (fromN (alOf s) s.size))).setCells (w2.heap.size + 1) 0 (arr (toN (alOf s) s.size)) = wv at *
        generalize w2.heap.size = N at *
        go_loop [10] (fun i => ∃ v : Nat, v ≤ s.size ∧ i = .int .i64 v) (fun i => s.size - (intOf i).toNat)
        case atStart => exact ⟨0, Nat.zero_le _, rfl⟩
        case round =>
          obtain ⟨v, hv, rfl⟩ := hrel
          by_cases hlv : v < s.size
          · have i1 := index_dig v (by omega)
            have i2 := index_al s v hlv
            have hdl := dig_lt (v := v) (by omega)
            have hvl := hal v
            have c1 := hc1 (dig v) hdl
            rw [fromN_dig (alOf s) v s.size hlv h62'] at c1
            have c2 := hc2 (alOf s v) hvl
            rw [toN_al (alOf s) v s.size hlv (fun u h1 h2 hh => HDIS.out v u h1 h2 hh.symm)] at c2
            clear hc1 hc2 HDIS hal
            generalize dig v = d at *
            generalize alOf s v = x at *
            go_wp2
            go_round
            case rel => exact ⟨v + 1, by omega, by go_num⟩
            case measure => simp [intOf]; omega
          · go_wp2
            go_ret
            exact ⟨rfl, hbel⟩
  · go_enter Try.func10, Try.ntmps10
    go_wp2_with (go_at_call 23; refine (zzBytes23_any s _ (by omega)).mono ?_; rintro e w1 ⟨rfl, rfl⟩; rw [decide_eq_false hs])
    go_ret
    exact ⟨rfl, Below.refl _ _⟩

/-! ### THE ROW's STEP -/
theorem own : ownKnob Try.prog.godebug = none := by kernel_rfl

set_option maxRecDepth 100000 in
theorem lifted (os : Os) (started : os.Started) (H : Type) (enc : TypeId × Value → H) :
    ReturnsInHanded {} Try.checked os 10 .any (Rows.fnNewRadixRoundTripSpec.pre6 enc Try.prog Try.f10 Rows.fnNewRadixRoundTripRow.domain false) (Rows.fnNewRadixRoundTripSpec.post enc Try.prog Try.f10 false true false false) := by
  refine returnsInHanded_of_change (C := Try.checked) own started (by kernel_rfl) Try.func10
    (ChangeSpec.witness6 (enc := enc) (C := Try.checked) false ⟨#[], #[.string ByteArray.empty], []⟩ 8 (by kernel_rfl) (by kernel_rfl) (by kernel_rfl) (by kernel_rfl)) ?_
  intro W base args ds gs before hval0 hW hcnd _
  have hval : ∀ (j : Nat) t v, Try.f10.params[j]? = some t → args[j]? = some v → Value.okWide Try.prog W .any base t v := hval0
  have hW' := hW
  obtain ⟨p, q, hA0, hV, rfl, hfz, hnd⟩ := hW
  have hA : DataW.TrodAll enc Try.prog W 0 (fun _ => true) true Try.f10.params.toList args.toList ds p := hA0
  rw [Try.params10] at hA hval
  obtain ⟨v0, vs0, d0, ds0, p0, q0, hargs, rfl, rfl, h0, r0⟩ := trodAll_cons hA
  obtain ⟨rfl, rfl, rfl⟩ := trodAll_nil r0
  obtain rfl : args = #[v0] := by cases args; simp_all
  obtain ⟨rfl, rfl⟩ := trodVars_none hV
  obtain ⟨a0, rfl, rfl, rfl, w0⟩ := open_string Try.underlying9 (hval 0 9 v0 rfl rfl) h0
  clear hA0 hval0
  refine (walkTrip a0 w0 W).mono fun e W' ⟨he, bel⟩ => ?_
  subst he
  exact ⟨_, rfl, _, _, _, [], [], [], hW', trodAll_mk1 (shut_bool Try.underlying4 _), (trodAll_mk1 (shut_string Try.underlying9 w0)), rfl, bel.frame _, fun h => by cases h⟩

theorem over : Rows.fnNewRadixRoundTripRow.holds Try.pinned (OpenSpec.ofChange Rows.fnNewRadixRoundTripSpec) :=
  OpenClaim.holds_of_wide 10 Try.f10 rfl rfl rfl rfl rfl rfl rfl ⟨rfl, rfl, rfl, rfl, rfl⟩ rfl rfl rfl rfl rfl (by kernel_rfl) Try.func10 (by kernel_rfl)
    (of_decide_eq_true (by kernel_rfl)) (by unfold Func.isWrapper; first | (rw [if_pos (by decide +kernel)]; kernel_rfl) | (rw [if_neg (by decide +kernel)]; exact ⟨rfl, rfl⟩))
    (fun os started H enc _ => lifted os started H enc)

/-- THE STATEMENT -/
theorem proved : Rows.FnNewRadixRoundTripSaid := over
#print axioms proved

end Go.Proofs.Qxb6601964a.RadTrip
