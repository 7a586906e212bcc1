/- THE LAW's WALK and its row: FnFindCycleIsACycleExactlyWhenCyclic. -/
import Derived.Test.Qxb6601949aFcSearch
import Derived.Test.Qxb6601949aRows
import Derived.ProofKit
import Derived.ShutString
import Derived.ChangeOld
import Derived.Below
import Derived.Deep.Matrix
namespace Go.Proofs.Qxb6601949a.Fc
open Go.ChangeShapes Go.WideShapes Go.ChangeAt Go.RowKit
set_option linter.unusedVariables false

theorem own : ownKnob Try.prog.godebug = none := by kernel_rfl
theorem laidOut : laidOutB Try.prog = true := by kernel_rfl

/-- WHAT findCycle's VALUE IS GOOD FOR. -/
def FindRes (n : Nat) (L : Nat → Nat) (E : Nat → Nat → Nat) (ao : Option Addr) (len : Nat) (w' : World) : Prop :=
  (ao = none ∧ Ranked n L E) ∨ ∃ (g : Nat) (cyc : List Nat), ao = some ⟨g, 0, none⟩ ∧ cyc.length = len ∧ IsCyc n L E cyc ∧ ∀ (i u : Nat), cyc[i]? = some u → w'.cell? ⟨g, i, none⟩ = some (.int .i64 (u : Int))
theorem FindRes.mono {n : Nat} {L : Nat → Nat} {E : Nat → Nat → Nat} {ao : Option Addr} {len : Nat} {w w' : World} (h : FindRes n L E ao len w) (hb : Below w.heap.size w w') : FindRes n L E ao len w' := by
  rcases h with h | ⟨g, cyc, h1, h2, h3, h4⟩
  · exact .inl h
  · exact .inr ⟨g, cyc, h1, h2, h3, fun i u hu => (hb.cell (World.block_lt_of_cell? _ _ (h4 i u hu))).trans (h4 i u hu)⟩

theorem findCycle_val (w : World) (a : Option Addr) (b off n cap : Nat) (A : Nat → Option Addr) (L C GB GO : Nat → Nat) (E : Nat → Nat → Nat) (hn : n ≤ 65536) (hL : ∀ r, r < n → L r ≤ 1048576) (hE : ∀ u, u < n → ∀ c, c < L u → E u c < n)
    (h : GraphAt w a b off n A L C GB GO (fun r c => (E r c : Int))) :
    Calls Try.prog 37 #[.slice a n cap] w fun e w' => ∃ (ao : Option Addr) (len cp : Nat), e = .returned (.slice ao len cp) ∧ FindRes n L E ao len w' ∧ Below w.heap.size w w' := by
  refine (findCycle_any w a b off n cap A L C GB GO E hn hL hE h).mono ?_
  rintro e w' ⟨hb, hp⟩
  rcases hp with ⟨rfl, hr⟩ | ⟨g, cp, cyc, rfl, h1, h2⟩
  · exact ⟨none, 0, 0, rfl, .inl ⟨rfl, hr⟩, hb⟩
  · exact ⟨some ⟨g, 0, none⟩, cyc.length, cp, rfl, .inr ⟨g, cyc, rfl, rfl, h1, h2⟩, hb⟩

set_option maxHeartbeats 400000 in
theorem zzFind_any (w : World) (a : Option Addr) (b off n cap : Nat) (A : Nat → Option Addr) (L C GB GO : Nat → Nat) (E : Nat → Nat → Nat) (hn : n ≤ 65536) (hL : ∀ r, r < n → L r ≤ 1048576) (hE : ∀ u, u < n → ∀ c, c < L u → E u c < n)
    (h : GraphAt w a b off n A L C GB GO (fun r c => (E r c : Int))) :
    Calls Try.prog 11 #[.slice a n cap] w fun e w' => ∃ (ao : Option Addr) (len cp : Nat), e = .returned (.slice ao len cp) ∧ FindRes n L E ao len w' ∧ Below w.heap.size w w' := by
  go_enter Try.func11, Try.ntmps11
  go_wp2_with (go_at_call 37; refine (findCycle_val _ a b off n cap A L C GB GO E hn hL hE h).mono ?_; rintro e w1 ⟨ao, len, cp, rfl, hr, hb⟩)
  go_ret
  exact ⟨ao, len, cp, rfl, hr, hb⟩

/-- THE WALK OF THE LAW. -/
theorem edges_nat {n : Nat} {L : Nat → Nat} {Z : Nat → Nat → Int} (h : rowsOk n L Z n) : ∀ u, u < n → ∀ c, c < L u → Z u c = ((Z u c).toNat : Int) ∧ (Z u c).toNat < n := fun u hu c hc => by
  obtain ⟨h0, h1⟩ := h u hu c hc
  exact ⟨by omega, by omega⟩
theorem GraphAt.nat {w : World} {a : Option Addr} {b off n : Nat} {A : Nat → Option Addr} {L C GB GO : Nat → Nat} {Z : Nat → Nat → Int} (h : GraphAt w a b off n A L C GB GO Z) (hz : rowsOk n L Z n) : GraphAt w a b off n A L C GB GO (fun r c => (((Z r c).toNat : Nat) : Int)) :=
  ⟨h.at', h.row, fun r hr c hc => ⟨(h.cell r hr c hc).1, by rw [(h.cell r hr c hc).2, ← (edges_nat hz r hr c hc).1]⟩⟩
theorem weight_one {L : Nat → Nat} {n r : Nat} (hr : r < n) : 8 * L r ≤ weight L n := by
  induction n with
  | zero => omega
  | succ n ih =>
    rw [weight_succ]
    by_cases e : r = n
    · subst e; omega
    · have := ih (by omega); omega

set_option maxHeartbeats 1000000 in
theorem walk (w : World) (a : Option Addr) (b off n cap : Nat) (A : Nat → Option Addr) (L C GB GO : Nat → Nat) (Z : Nat → Nat → Int) (hn : n ≤ 9223372036854775807) (hL : ∀ r, r < n → L r ≤ 9223372036854775807) (hz : a = none → n = 0) (hAz : ∀ r, r < n → A r = none → L r = 0) (h : GraphAt w a b off n A L C GB GO Z) :
    Calls Try.prog 3 #[.slice a n cap] w fun e w' => e = .returned (.bool true) ∧ Below w.heap.size w w' := by
  have q25 : ∀ (w : World) (a : Option Addr) (n c n' c' : Nat), (binOp .eql 25 (.slice a n c) (.slice none n' c')).run Try.prog w = .ok (.bool a.isNone) w := fun w a n c n' c' => Lib.run_eql_slice_nil w _ _ a n c n' c' Try.underlying25
  go_enter Try.func3, Try.ntmps3
  go_wp2_with fail
  refine (zzBytes_any _ a b off n cap A L C GB GO Z hn hL h).mono ?_
  rintro e w1 ⟨⟨v1, rfl, _⟩, rfl⟩
  cases v1
  · go_wp2_with fail
    go_ret
    exact ⟨rfl, Below.refl _ _⟩
  go_wp2_with fail
  refine (graphFits_any _ a b off n cap A L C GB GO Z hn hL h).mono ?_
  rintro e w2 ⟨⟨v2, rfl, hv2⟩, rfl⟩
  cases v2
  · go_wp2_with fail
    go_ret
    exact ⟨rfl, Below.refl _ _⟩
  obtain ⟨hn2, hw⟩ := hv2 rfl
  have hL2 : ∀ r, r < n → L r ≤ 1048576 := fun r hr => by have := weight_one (L := L) hr; omega
  have hS : sumTo L n ≤ 1048576 := by have := sumL_le L n; have h2 : weight L n = sumTo (fun r => 24 + 8 * L r) n := rfl; omega
  clear hv2 hw
  go_wp2_with fail
  refine (edgesInRange_any _ a b off n cap A L C GB GO Z hn2 hL2 h).mono ?_
  rintro e w3 ⟨⟨v3, rfl, hv3⟩, rfl⟩
  cases v3
  · go_wp2_with fail
    go_ret
    exact ⟨rfl, Below.refl _ _⟩
  have hok := hv3 rfl
  clear hv3
  go_wp2_with fail
  refine (copyGraph_any _ a b off n cap A L C GB GO Z hn2 hL2 hz hAz h).mono ?_
  rintro e w4 ⟨a', cap', b', off', A', C', GB', GO', rfl, hG, hb4⟩
  have hG' := hG.nat hok
  have hE : ∀ u, u < n → ∀ c, c < L u → (Z u c).toNat < n := fun u hu c hc => (edges_nat hok u hu c hc).2
  have hE' : ∃ E : Nat → Nat → Nat, GraphAt w4 a' b' off' n A' L C' GB' GO' (fun r c => (E r c : Int)) ∧ ∀ u, u < n → ∀ c, c < L u → E u c < n := ⟨fun r c => (Z r c).toNat, hG', hE⟩
  clear hG hok h hG' hE
  obtain ⟨E, hG, hE⟩ := hE'
  go_wp2_with fail
  refine (zzFind_any _ a' b' off' n cap' A' L C' GB' GO' E hn2 hL2 hE hG).mono ?_
  rintro e w5 ⟨ao, len, cp, rfl, hr5, hb5⟩
  have hG5 := hG.of_below hb5
  go_wp2_with fail
  refine (kahn_any _ a' b' off' n cap' A' L C' GB' GO' E hn2 hL2 hS hE hG5).mono ?_
  rintro e w6 ⟨⟨v6, rfl, hv6, hv6'⟩, hb6⟩
  have hG6 := hG5.of_below hb6
  have hr6 := hr5.mono hb6
  have hs4 := hb4.size
  have hs5 := hb5.size
  have hbel := (hb4.trans (hb5.mono hs4)).trans (hb6.mono (by omega))
  clear hr5 hG5 hG hb5 hb6 hb4
  rcases hr6 with ⟨rfl, hrk⟩ | ⟨g, cyc, rfl, hlen, hcyc, hcell⟩
  · obtain rfl := hv6 hrk
    clear hv6 hv6'
    go_wp2_with fail
    go_ret
    exact ⟨rfl, hbel⟩
  · have hv : v6 = false := by
      cases v6
      · rfl
      · exact absurd (hv6' rfl) (no_rankedUp hcyc)
    subst hv
    clear hv6 hv6'
    go_wp2_with fail
    refine (isCycle_any _ a' b' off' n cap' A' L C' GB' GO' E g cp cyc len hlen hn2 hL2 hG6 hcyc hcell).mono ?_
    rintro e w7 ⟨rfl, hb7⟩
    have hs6 := hbel.size
    go_wp2_with fail
    go_ret
    exact ⟨rfl, hbel.trans (hb7.mono hs6)⟩

/-! ### THE ROW's STEP -/
theorem cells25 : Try.prog.cellsOf 25 = 1 := by kernel_rfl
theorem cells3 : Try.prog.cellsOf 3 = 1 := by kernel_rfl

set_option maxRecDepth 100000 in
theorem lifted (os : Os) (started : os.Started) (H : Type) (enc : TypeId × Value → H) :
    ReturnsInHanded {} Try.checked os 3 .any (Rows.fnFindCycleIsACycleExactlyWhenCyclicSpec.pre6 enc Try.prog Try.f3 Rows.fnFindCycleIsACycleExactlyWhenCyclicRow.domain false) (Rows.fnFindCycleIsACycleExactlyWhenCyclicSpec.post enc Try.prog Try.f3 false true false false) := by
  refine returnsInHanded_of_change (C := Try.checked) own started (by kernel_rfl) Try.func3
    (ChangeSpec.witness6 (enc := enc) (C := Try.checked) false ⟨#[], #[.slice none 0 0], []⟩ 8 (by kernel_rfl) (by kernel_rfl) (by kernel_rfl) (by kernel_rfl)) ?_
  intro W base args ds gs before hval0 hW hcnd _
  have hval : ∀ (j : Nat) t v, Try.f3.params[j]? = some t → args[j]? = some v → Value.okWide Try.prog W .any base t v := hval0
  have hW' := hW
  obtain ⟨p, q, hA0, hV, rfl, hfz, hnd⟩ := hW
  have hA : DataW.TrodAll enc Try.prog W 0 (fun _ => true) true Try.f3.params.toList args.toList ds p := hA0
  rw [Try.params3] at hA hval
  obtain ⟨v0, vs0, d0, ds0, p0, q0, hargs, rfl, rfl, h0, r0⟩ := trodAll_cons hA
  obtain ⟨rfl, rfl, rfl⟩ := trodAll_nil r0
  obtain rfl : args = #[v0] := by cases args; simp_all
  obtain ⟨rfl, rfl⟩ := trodVars_none hV
  obtain ⟨a0, len0, cap0, rfl⟩ := okWide_slice Try.underlying22 (hval 0 22 v0 rfl rfl)
  have k0 := h0
  have lt0 : ∀ x ∈ p0, x.block < W.heap.size := by obtain ⟨m, hm⟩ := k0; exact DataW.trod_lt m _ _ _ hm
  obtain ⟨b, off, A, L, C, GB, GO, Z, hn, hL, hz, hAz, hG⟩ : ∃ (b off : Nat) (A : Nat → Option Addr) (L C GB GO : Nat → Nat) (Z : Nat → Nat → Int), len0 ≤ 9223372036854775807 ∧ (∀ r, r < len0 → L r ≤ 9223372036854775807) ∧ (a0 = none → len0 = 0) ∧ (∀ r, r < len0 → A r = none → L r = 0) ∧ GraphAt W a0 b off len0 A L C GB GO Z := by
    obtain ⟨fuel, hf⟩ := h0
    rcases Go.Deep.open_int_rows Try.underlying22 Try.underlying25 Try.underlying3 cells25 cells3 hf with ⟨hcs, _⟩ | ⟨x, l, c, A, L, C, Z, hcs, _, hl, hm, _, hrow⟩
    · simp [Value.cells] at hcs
      obtain ⟨rfl, rfl, rfl⟩ := hcs
      exact ⟨0, 0, fun _ => none, fun _ => 0, fun _ => 0, fun _ => 0, fun _ => 0, fun _ _ => 0, by omega, fun r hr => by omega, fun _ => rfl, fun r hr => by omega, ⟨fun hh => by omega, fun r hr => by omega, fun r hr => by omega⟩⟩
    · simp [Value.cells] at hcs
      obtain ⟨rfl, rfl, rfl⟩ := hcs
      unfold maxLen at hm
      refine ⟨x.block, x.off, A, L, C, fun r => ((A r).map Addr.block).getD 0, fun r => ((A r).map Addr.off).getD 0, fun r c => (Z r).getD c 0, by omega, fun r hr => ?_, (fun hh => by cases hh), fun r hr hh => ?_, ⟨fun hh => ?_, fun r hr => ?_, fun r hr c hc => ?_⟩⟩
      · have h1 := (hrow r (by omega)).2.1
        have h2 := (hrow r (by omega)).2.2.1
        unfold maxLen at h2
        omega
      · have h1 := (hrow r (by omega)).2.1
        have h2 := (hrow r (by omega)).2.2.2.2.2.1 hh
        omega
      · have hsp := World.cell?_spot (hrow 0 (by omega)).1
        obtain ⟨xb, xo, xs⟩ := x
        have hxs : xs = none := by simpa [Addr.add] using hsp
        subst hxs; rfl
      · have h1 := (hrow r (by omega)).1
        have hsp := World.cell?_spot (hrow 0 (by omega)).1
        obtain ⟨xb, xo, xs⟩ := x
        have hxs : xs = none := by simpa [Addr.add] using hsp
        subst hxs
        rw [Addr.add_lit] at h1
        exact h1
      · have h1 := (hrow r (by omega)).2.1
        have h2 := (hrow r (by omega)).2.2.2.2.2
        cases hA : A r with
        | none => have := h2.1 hA; omega
        | some y =>
          have h3 := (h2.2 y hA).2 c (by omega)
          have hsp := World.cell?_spot ((h2.2 y hA).2 0 (by omega))
          obtain ⟨yb, yo, ys⟩ := y
          have hys : ys = none := by simpa [Addr.add] using hsp
          subst hys
          rw [Addr.add_lit] at h3
          exact ⟨by simp, by simpa using h3⟩
  clear hA0 hval0
  refine (walk W a0 b off len0 cap0 A L C GB GO Z hn hL hz hAz hG).mono fun e W' ⟨he, bel⟩ => ?_
  subst he
  exact ⟨_, rfl, _, _, _, [], _, [], hW', trodAll_mk1 (shut_bool Try.underlying4 _), (trodAll_mk1 (Below.trod laidOut (by kernel_rfl) (of_decide_eq_true (by kernel_rfl)) k0 bel lt0)), rfl, bel.frame _, fun h => by cases h⟩

theorem over : Rows.fnFindCycleIsACycleExactlyWhenCyclicRow.holds Try.pinned (OpenSpec.ofChange Rows.fnFindCycleIsACycleExactlyWhenCyclicSpec) :=
  OpenClaim.holds_of_wide 3 Try.f3 rfl rfl rfl rfl rfl rfl rfl ⟨rfl, rfl, rfl, rfl, rfl⟩ rfl rfl rfl rfl rfl (by kernel_rfl) Try.func3 (by kernel_rfl)
    (of_decide_eq_true (by kernel_rfl)) (by unfold Func.isWrapper; first | (rw [if_pos (by decide +kernel)]; kernel_rfl) | (rw [if_neg (by decide +kernel)]; exact ⟨rfl, rfl⟩))
    (fun os started H enc _ => lifted os started H enc)

/-- THE STATEMENT -/
theorem proved : Rows.FnFindCycleIsACycleExactlyWhenCyclicSaid := over
#print axioms proved

end Go.Proofs.Qxb6601949a.Fc
