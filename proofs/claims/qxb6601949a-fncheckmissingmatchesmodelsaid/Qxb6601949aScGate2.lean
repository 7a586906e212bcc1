/- THE SCRIPT LAWS: the gate of the second law. -/
import Derived.Test.Qxb6601949aScGate
namespace Go.Proofs.Qxb6601949a.Sc
open Go.RowKit
set_option linter.unusedVariables false
set_option linter.unusedSimpArgs false

set_option maxRecDepth 100000 in
set_option maxHeartbeats 2000000 in
theorem zzBytes15_any (w : World) (s2 s3 : Sl) (lg : List Lp) (ds : List Dp) (hLg : CellsAt w s2 3 (logsC lg)) (hD : DsAt w s3 ds) :
    Calls Try.prog 15 #[.slice s2.a s2.n s2.cap, .slice s3.a s3.n s3.cap] w fun e w' => RetB e True ∧ w' = w := by
  by_cases hs1 : (1048576 : Int) < (s2.n : Int)
  · go_enter Try.func15, Try.ntmps15
    go_wp2
    go_ret
    exact ⟨retB_no _, rfl⟩
  have hs1d : decide ((1048576 : Int) < (s2.n : Int)) = false := decide_eq_false hs1
  go_enter Try.func15, Try.ntmps15
  go_wp2
  go_loop [5, 6] (fun t i => ∃ (k : Nat) (m : Int), k ≤ s2.n ∧ i = .int .i64 k ∧ t = .int .i64 m ∧ 0 ≤ m ∧ m ≤ 1048576) (fun _ i => s2.n - (intOf i).toNat)
  case atStart => exact ⟨0, _, Nat.zero_le _, rfl, rfl, by omega, by omega⟩
  case round =>
    obtain ⟨k2, m2, hk2, rfl, rfl, hm20, hm21⟩ := hrel
    by_cases hltk2 : k2 < s2.n
    · have ha2 := hLg.at' (by omega)
      obtain ⟨x0, x1, x2, _, e0, e1, e2⟩ := logs_at hLg hltk2
      clear hD hLg
      go_wp2
      all_goals try (go_ret; exact ⟨retB_no _, rfl⟩)
      go_round
      case rel => exact ⟨k2 + 1, _, by omega, by go_num, rfl, by omega, by omega⟩
      case measure => simp [intOf]; omega
    · by_cases hr1 : (1048576 : Int) < (s3.n : Int)
      · go_wp2
        go_ret
        exact ⟨retB_no _, rfl⟩
      by_cases hr2 : (1048576 : Int) < m2 + (s3.n : Int)
      · go_wp2
        go_ret
        exact ⟨retB_no _, rfl⟩
      have hr1d : decide ((1048576 : Int) < (s3.n : Int)) = false := decide_eq_false hr1
      have hr2d : decide ((1048576 : Int) < m2 + (s3.n : Int)) = false := decide_eq_false hr2
      go_wp2
      go_loop [5, 7] (fun t i => ∃ (k : Nat) (m : Int), k ≤ s3.n ∧ i = .int .i64 k ∧ t = .int .i64 m ∧ 0 ≤ m ∧ m ≤ 1048576) (fun _ i => s3.n - (intOf i).toNat)
      case atStart => exact ⟨0, _, Nat.zero_le _, rfl, rfl, by omega, by omega⟩
      case round =>
        obtain ⟨k3, m3, hk3, rfl, rfl, hm30, hm31⟩ := hrel
        by_cases hltk3 : k3 < s3.n
        · have ha3 := hD.at' (by omega)
          obtain ⟨d, tt, kk, _, hE⟩ := hD.get hltk3
          have c1 := hE.c1
          have c3 := hE.c3
          have c4 := hE.c4
          by_cases hp1 : (1048576 : Int) < (d.id.size : Int)
          · go_wp2
            go_ret
            exact ⟨retB_no _, rfl⟩
          by_cases hp2 : (1048576 : Int) < m3 + (d.id.size : Int)
          · go_wp2
            go_ret
            exact ⟨retB_no _, rfl⟩
          by_cases hp3 : (1048576 : Int) < (tt.n : Int)
          · go_wp2
            go_ret
            exact ⟨retB_no _, rfl⟩
          by_cases hp4 : (1048576 : Int) < m3 + (d.id.size : Int) + (tt.n : Int)
          · go_wp2
            go_ret
            exact ⟨retB_no _, rfl⟩
          have hp1d : decide ((1048576 : Int) < (d.id.size : Int)) = false := decide_eq_false hp1
          have hp2d : decide ((1048576 : Int) < m3 + (d.id.size : Int)) = false := decide_eq_false hp2
          have hp3d : decide ((1048576 : Int) < (tt.n : Int)) = false := decide_eq_false hp3
          have hp4d : decide ((1048576 : Int) < m3 + (d.id.size : Int) + (tt.n : Int)) = false := decide_eq_false hp4
          go_wp2
          go_loop [5, 8] (fun t i => ∃ (k : Nat) (m : Int), k ≤ tt.n ∧ i = .int .i64 k ∧ t = .int .i64 m ∧ 0 ≤ m ∧ m ≤ 1048576) (fun _ i => tt.n - (intOf i).toNat)
          case atStart => exact ⟨0, _, Nat.zero_le _, rfl, rfl, by omega, by omega⟩
          case round =>
            obtain ⟨k4, m4, hk4, rfl, rfl, hm40, hm41⟩ := hrel
            by_cases hltk4 : k4 < tt.n
            · have ha4 := hE.to.at' (by omega)
              obtain ⟨x4, _, hc4⟩ := strs_at hE.to hltk4
              clear hD hLg
              go_wp2
              all_goals try (go_ret; exact ⟨retB_no _, rfl⟩)
              go_round
              case rel => exact ⟨k4 + 1, _, by omega, by go_num, rfl, by omega, by omega⟩
              case measure => simp [intOf]; omega
            · by_cases hq1 : (1048576 : Int) < (kk.n : Int)
              · go_wp2
                go_ret
                exact ⟨retB_no _, rfl⟩
              by_cases hq2 : (1048576 : Int) < m4 + (kk.n : Int)
              · go_wp2
                go_ret
                exact ⟨retB_no _, rfl⟩
              have hq1d : decide ((1048576 : Int) < (kk.n : Int)) = false := decide_eq_false hq1
              have hq2d : decide ((1048576 : Int) < m4 + (kk.n : Int)) = false := decide_eq_false hq2
              go_wp2
              go_loop [5, 9] (fun t i => ∃ (k : Nat) (m : Int), k ≤ kk.n ∧ i = .int .i64 k ∧ t = .int .i64 m ∧ 0 ≤ m ∧ m ≤ 1048576) (fun _ i => kk.n - (intOf i).toNat)
              case atStart => exact ⟨0, _, Nat.zero_le _, rfl, rfl, by omega, by omega⟩
              case round =>
                obtain ⟨k5, m5, hk5, rfl, rfl, hm50, hm51⟩ := hrel
                by_cases hltk5 : k5 < kk.n
                · have ha5 := hE.keys.at' (by omega)
                  obtain ⟨x5, y5, _, hc5, hc5'⟩ := keys_at hE.keys hltk5
                  clear hD hLg
                  go_wp2
                  all_goals try (go_ret; exact ⟨retB_no _, rfl⟩)
                  go_round
                  case rel => exact ⟨k5 + 1, _, by omega, by go_num, rfl, by omega, by omega⟩
                  case measure => simp [intOf]; omega
                · clear hD hLg
                  go_wp2
                  rw [← ha3]
                  go_round
                  case rel => exact ⟨k3 + 1, _, by omega, by go_num, rfl, by omega, by omega⟩
                  case measure => simp [intOf]; omega
        · clear hD hLg
          go_wp2
          go_ret
          exact ⟨retB_yes trivial, rfl⟩

end Go.Proofs.Qxb6601949a.Sc
