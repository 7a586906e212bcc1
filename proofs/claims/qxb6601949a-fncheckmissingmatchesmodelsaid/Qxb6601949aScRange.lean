/- THE SCRIPT LAWS: logsInRange, reportsFit. -/
import Derived.Test.Qxb6601949aScGate
namespace Go.Proofs.Qxb6601949a.Sc
open Go.RowKit
set_option linter.unusedVariables false
set_option linter.unusedSimpArgs false

/-- Every line names a log. -/
def InRange (n : Nat) (ds : List Dp) : Prop := ∀ (j : Nat) (d : Dp), ds[j]? = some d → 0 ≤ d.log ∧ d.log < (n : Int)

set_option maxHeartbeats 1000000 in
theorem logsInRange_any (w : World) (s2 s3 : Sl) (ds : List Dp) (hn : s3.n ≤ 1048576) (hn2 : s2.n ≤ 1048576) (hD : DsAt w s3 ds) :
    Calls Try.prog 17 #[.slice s2.a s2.n s2.cap, .slice s3.a s3.n s3.cap] w fun e w' => RetB e (InRange s2.n ds) ∧ ∃ m, w' = w.drewN m := by
  go_enter Try.func17, Try.ntmps17
  go_wp2
  go_loopw [5] (fun i wr => ∃ k m : Nat, k ≤ s3.n ∧ i = .int .i64 k ∧ wr = w.drewN m ∧ Hid (∀ j d, j < k → ds[j]? = some d → 0 ≤ d.log ∧ d.log < (s2.n : Int))) (fun i _ => s3.n - (intOf i).toNat)
  case atStart => exact ⟨0, 0, Nat.zero_le _, rfl, rfl, fun j d hj => by omega⟩
  case round =>
    obtain ⟨k, m, hk, rfl, rfl, hF⟩ := hrel
    by_cases hlt : k < s3.n
    · have ha := hD.at' (by omega)
      obtain ⟨d, t0, k0, hd, hE⟩ := hD.get hlt
      have c0 := hE.c0
      have hlt' : Hid (k < s3.n) := hlt
      have hd' : Hid (ds[k]? = some d) := hd
      clear hE hD hd
      by_cases h1 : d.log < 0
      · have h1d : decide (d.log < 0) = true := decide_eq_true h1
        go_wp2
        try go_quiet (fail)
        go_wp2
        go_ret
        exact ⟨retB_no _, _, rfl⟩
      · have h1d : decide (d.log < 0) = false := decide_eq_false h1
        by_cases h2 : (s2.n : Int) ≤ d.log
        · have h2d : decide ((s2.n : Int) ≤ d.log) = true := decide_eq_true h2
          go_wp2
          try go_quiet (fail)
          go_wp2
          go_ret
          exact ⟨retB_no _, _, rfl⟩
        · have h2d : decide ((s2.n : Int) ≤ d.log) = false := decide_eq_false h2
          have hF' : Hid (∀ j d, j < k + 1 → ds[j]? = some d → 0 ≤ d.log ∧ d.log < (s2.n : Int)) := fun j x hj hx => by
            by_cases e : j = k
            · subst e; rw [hd'.out] at hx; cases hx; omega
            · exact hF.out j x (by omega) hx
          go_wp2
          try go_quiet (fail)
          go_wp2
          go_roundw
          case rel => exact ⟨k + 1, _, hlt'.out, by go_num, rfl, hF'⟩
          case measure => have := hlt'.out; simp [intOf]; omega
    · have hlen := hD.len
      have hfin : InRange s2.n ds := fun j d hd => hF.out j d (by have := (List.getElem?_eq_some_iff.1 hd).1; omega) hd
      clear hD
      go_wp2
      go_ret
      exact ⟨retB_yes hfin, m, rfl⟩

end Go.Proofs.Qxb6601949a.Sc
