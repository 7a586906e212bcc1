/- THE SCRIPT LAWS: scriptFits, reportsFit. -/
import Derived.Test.Qxb6601949aScGate
namespace Go.Proofs.Qxb6601949a.Sc
open Go.RowKit
set_option linter.unusedVariables false
set_option linter.unusedSimpArgs false

def AllUp {α : Type} (P : α → Prop) (l : List α) (k : Nat) : Prop := ∀ j x, j < k → l[j]? = some x → P x
theorem AllUp.zero {α : Type} (P : α → Prop) (l : List α) : AllUp P l 0 := fun j _ h => by omega
theorem AllUp.succ {α : Type} {P : α → Prop} {l : List α} {k : Nat} (h : AllUp P l k) {x : α} (hx : l[k]? = some x) (hP : P x) : AllUp P l (k + 1) := fun j y hj hy => by
  by_cases e : j = k
  · subst e; rw [hx] at hy; cases hy; exact hP
  · exact h j y (by omega) hy
theorem AllUp.all {α : Type} {P : α → Prop} {l : List α} {k : Nat} (h : AllUp P l k) (hk : l.length ≤ k) : ∀ x, x ∈ l → P x := fun x hx => by
  obtain ⟨j, hj⟩ := List.getElem?_of_mem hx
  exact h j x (by have := (List.getElem?_eq_some_iff.1 hj).1; omega) hj

def FitD (d : Dp) : Prop := d.id.size ≤ 1048576 ∧ d.to.length ≤ 1048576 ∧ d.keys.length ≤ 1048576 ∧ ∀ x, x ∈ d.to → x.size ≤ 1048576
/-- What scriptFits answers for. -/
structure Fits (mx : Nat) (cr : List ByteArray) (lg : List Lp) (ds : List Dp) : Prop where
  hcr : cr.length ≤ 4096
  hlg : lg.length ≤ mx
  hds : ds.length ≤ 4096
  grp : ∀ l, l ∈ lg → l.grp.size ≤ 1048576
  el : ∀ d, d ∈ ds → FitD d

theorem strs_len {w : World} {s : Sl} {ss : List ByteArray} (h : CellsAt w s 1 (strsC ss)) : ss.length = s.n := by have := h.len; rw [strsC_length] at this; omega
theorem keys_len {w : World} {s : Sl} {ss : List (ByteArray × Bool)} (h : CellsAt w s 2 (keysC ss)) : ss.length = s.n := by have := h.len; rw [keysC_length] at this; omega
theorem logs_len {w : World} {s : Sl} {ss : List Lp} (h : CellsAt w s 3 (logsC ss)) : ss.length = s.n := by have := h.len; rw [logsC_length] at this; omega

set_option maxRecDepth 100000 in
set_option maxHeartbeats 4000000 in
theorem scriptFits_any (w : World) (s1 s2 s3 : Sl) (cr : List ByteArray) (lg : List Lp) (ds : List Dp) (mx : Nat) (hmx : mx ≤ 1048576) (hCr : CellsAt w s1 1 (strsC cr)) (hLg : CellsAt w s2 3 (logsC lg)) (hD : DsAt w s3 ds) :
    Calls Try.prog 16 #[.slice s1.a s1.n s1.cap, .slice s2.a s2.n s2.cap, .slice s3.a s3.n s3.cap, .int .i64 (mx : Int)] w fun e w' => RetB e (Fits mx cr lg ds) ∧ ∃ m, w' = w.drewN m := by
  by_cases g1 : (4096 : Int) < (s1.n : Int)
  · have g1d : decide ((4096 : Int) < (s1.n : Int)) = true := decide_eq_true g1
    go_enter Try.func16, Try.ntmps16
    go_wp2
    go_ret
    exact ⟨retB_no _, 0, rfl⟩
  have g1d : decide ((4096 : Int) < (s1.n : Int)) = false := decide_eq_false g1
  by_cases g2 : (mx : Int) < (s2.n : Int)
  · have g2d : decide ((mx : Int) < (s2.n : Int)) = true := decide_eq_true g2
    go_enter Try.func16, Try.ntmps16
    go_wp2
    go_ret
    exact ⟨retB_no _, 0, rfl⟩
  have g2d : decide ((mx : Int) < (s2.n : Int)) = false := decide_eq_false g2
  by_cases g3 : (4096 : Int) < (s3.n : Int)
  · have g3d : decide ((4096 : Int) < (s3.n : Int)) = true := decide_eq_true g3
    go_enter Try.func16, Try.ntmps16
    go_wp2
    go_ret
    exact ⟨retB_no _, 0, rfl⟩
  have g3d : decide ((4096 : Int) < (s3.n : Int)) = false := decide_eq_false g3
  go_enter Try.func16, Try.ntmps16
  go_wp2
  clear g1d g2d g3d
  go_loop [9, 10] (fun t i => ∃ (k : Nat) (m : Int), k ≤ s1.n ∧ i = .int .i64 k ∧ t = .int .i64 m ∧ 0 ≤ m ∧ m ≤ 1048576) (fun _ i => s1.n - (intOf i).toNat)
  case atStart => exact ⟨0, _, Nat.zero_le _, rfl, rfl, by omega, by omega⟩
  case round =>
    obtain ⟨k2, m2, hk2, rfl, rfl, hm20, hm21⟩ := hrel
    by_cases hltk2 : k2 < s1.n
    · have ha2 := hCr.at' (by omega)
      obtain ⟨x0, _, e0⟩ := strs_at hCr hltk2
      clear hD hLg hCr
      go_wp2
      all_goals try (go_ret; exact ⟨retB_no _, 0, rfl⟩)
      go_round
      case rel => exact ⟨k2 + 1, _, by omega, by go_num, rfl, by omega, by omega⟩
      case measure => simp [intOf]; omega
    · go_wp2
      go_loopw [9, 11] (fun t i wr => ∃ (k q : Nat) (m : Int), k ≤ s2.n ∧ i = .int .i64 k ∧ t = .int .i64 m ∧ wr = w.drewN q ∧ 0 ≤ m ∧ m ≤ 1048576 ∧ Hid (AllUp (fun l => l.grp.size ≤ 1048576) lg k)) (fun _ i _ => s2.n - (intOf i).toNat)
      case atStart => exact ⟨0, 0, _, Nat.zero_le _, rfl, rfl, rfl, by omega, by omega, AllUp.zero _ _⟩
      case round =>
        obtain ⟨k3, q3, m3, hk3, rfl, rfl, rfl, hm30, hm31, hA⟩ := hrel
        by_cases hltk3 : k3 < s2.n
        · have ha3 := hLg.at' (by omega)
          obtain ⟨x0, x1, x2, hx, e0, e1, e2⟩ := logs_at hLg hltk3
          have hxx : Hid (lg[k3]? = some ⟨x0, x1, x2⟩) := hx
          have hltk3' : Hid (k3 < s2.n) := hltk3
          have hkI : (k3 : Int) < (s2.n : Int) := by omega
          clear hD hLg hCr hx
          by_cases p1 : (1048576 : Int) < (x0.size : Int)
          · have p1d : decide ((1048576 : Int) < (x0.size : Int)) = true := decide_eq_true p1
            go_wp2
            go_ret
            exact ⟨retB_no _, _, rfl⟩
          have p1d : decide ((1048576 : Int) < (x0.size : Int)) = false := decide_eq_false p1
          by_cases p2 : (1048576 : Int) < (x1.size : Int)
          · have p2d : decide ((1048576 : Int) < (x1.size : Int)) = true := decide_eq_true p2
            go_wp2
            go_ret
            exact ⟨retB_no _, _, rfl⟩
          have p2d : decide ((1048576 : Int) < (x1.size : Int)) = false := decide_eq_false p2
          by_cases p3 : (1048576 : Int) < (x2.size : Int)
          · have p3d : decide ((1048576 : Int) < (x2.size : Int)) = true := decide_eq_true p3
            go_wp2
            go_ret
            exact ⟨retB_no _, _, rfl⟩
          have p3d : decide ((1048576 : Int) < (x2.size : Int)) = false := decide_eq_false p3
          have hA' : Hid (AllUp (fun l : Lp => l.grp.size ≤ 1048576) lg (k3 + 1)) := AllUp.succ hA.out hxx.out (by show x2.size ≤ 1048576; omega)
          go_wp2
          go_quiet (fail)
          go_wp2
          all_goals try (go_ret; exact ⟨retB_no _, _, rfl⟩)
          rw [← ha3]
          go_roundw
          case rel => exact ⟨k3 + 1, q3 + nq, _, hltk3'.out, by go_num, rfl, by simp, by omega, by omega, hA'⟩
          case measure => have := hltk3'.out; simp [intOf]; omega
        · have hG : Hid (∀ l, l ∈ lg → l.grp.size ≤ 1048576) := hA.out.all (by have := logs_len hLg; omega)
          have hl1 : Hid (cr.length ≤ 4096) := by have := strs_len hCr; show cr.length ≤ 4096; omega
          have hl2 : Hid (lg.length ≤ mx) := by have := logs_len hLg; show lg.length ≤ mx; omega
          have hl3 : Hid (ds.length ≤ 4096) := by have := hD.len; show ds.length ≤ 4096; omega
          clear hCr hLg hA
          go_wp2
          go_loop [9, 12] (fun t i => ∃ (k : Nat) (m : Int), k ≤ s3.n ∧ i = .int .i64 k ∧ t = .int .i64 m ∧ 0 ≤ m ∧ m ≤ 1048576 ∧ Hid (AllUp FitD ds k)) (fun _ i => s3.n - (intOf i).toNat)
          case atStart => exact ⟨0, _, Nat.zero_le _, rfl, rfl, by omega, by omega, AllUp.zero _ _⟩
          case round =>
            obtain ⟨k4, m4, hk4, rfl, rfl, hm40, hm41, hF⟩ := hrel
            by_cases hltk4 : k4 < s3.n
            · have ha4 := hD.at' (by omega)
              obtain ⟨d, tt, kk, hd, hE⟩ := hD.get hltk4
              have c1 := hE.c1
              have c3 := hE.c3
              have c4 := hE.c4
              have hdd : Hid (ds[k4]? = some d) := hd
              have htl : Hid (d.to.length = tt.n) := strs_len hE.to
              have hkl : Hid (d.keys.length = kk.n) := keys_len hE.keys
              have hkI : (k4 : Int) < (s3.n : Int) := by omega
              clear hd
              by_cases p1 : (1048576 : Int) < (d.id.size : Int)
              · have p1d : decide ((1048576 : Int) < (d.id.size : Int)) = true := decide_eq_true p1
                go_wp2
                go_ret
                exact ⟨retB_no _, _, rfl⟩
              have p1d : decide ((1048576 : Int) < (d.id.size : Int)) = false := decide_eq_false p1
              by_cases p2 : (1048576 : Int) < (tt.n : Int)
              · have p2d : decide ((1048576 : Int) < (tt.n : Int)) = true := decide_eq_true p2
                go_wp2
                go_ret
                exact ⟨retB_no _, _, rfl⟩
              have p2d : decide ((1048576 : Int) < (tt.n : Int)) = false := decide_eq_false p2
              by_cases p3 : (1048576 : Int) < (kk.n : Int)
              · have p3d : decide ((1048576 : Int) < (kk.n : Int)) = true := decide_eq_true p3
                go_wp2
                go_ret
                exact ⟨retB_no _, _, rfl⟩
              have p3d : decide ((1048576 : Int) < (kk.n : Int)) = false := decide_eq_false p3
              by_cases p4 : (1048576 : Int) < m4 + (80 + (d.id.size : Int))
              · go_wp2
                go_ret
                exact ⟨retB_no _, _, rfl⟩
              have p4d : decide ((1048576 : Int) < m4 + (80 + (d.id.size : Int))) = false := decide_eq_false p4
              go_wp2
              go_loop [9, 13] (fun t i => ∃ (k : Nat) (m : Int), k ≤ tt.n ∧ i = .int .i64 k ∧ t = .int .i64 m ∧ 0 ≤ m ∧ m ≤ 1048576 ∧ Hid (AllUp (fun x => x.size ≤ 1048576) d.to k)) (fun _ i => tt.n - (intOf i).toNat)
              case atStart => exact ⟨0, _, Nat.zero_le _, rfl, rfl, by omega, by omega, AllUp.zero _ _⟩
              case round =>
                obtain ⟨k5, m5, hk5, rfl, rfl, hm50, hm51, hT⟩ := hrel
                by_cases hltk5 : k5 < tt.n
                · have ha5 := hE.to.at' (by omega)
                  obtain ⟨x5, hx5, hc5⟩ := strs_at hE.to hltk5
                  clear hD
                  by_cases r1 : (1048576 : Int) < (x5.size : Int)
                  · go_wp2
                    go_ret
                    exact ⟨retB_no _, _, rfl⟩
                  have hT' : Hid (AllUp (fun x : ByteArray => x.size ≤ 1048576) d.to (k5 + 1)) := AllUp.succ hT.out hx5 (by omega)
                  clear hx5
                  go_wp2
                  all_goals try (go_ret; exact ⟨retB_no _, _, rfl⟩)
                  go_round
                  case rel => exact ⟨k5 + 1, _, by omega, by go_num, rfl, by omega, by omega, hT'⟩
                  case measure => simp [intOf]; omega
                · have hFd : Hid (FitD d) := ⟨by omega, by have := htl.out; omega, by have := hkl.out; omega, hT.out.all (by have := htl.out; omega)⟩
                  go_wp2
                  go_loop [9, 14] (fun t i => ∃ (k : Nat) (m : Int), k ≤ kk.n ∧ i = .int .i64 k ∧ t = .int .i64 m ∧ 0 ≤ m ∧ m ≤ 1048576) (fun _ i => kk.n - (intOf i).toNat)
                  case atStart => exact ⟨0, _, Nat.zero_le _, rfl, rfl, by omega, by omega⟩
                  case round =>
                    obtain ⟨k6, m6, hk6, rfl, rfl, hm60, hm61⟩ := hrel
                    by_cases hltk6 : k6 < kk.n
                    · have ha6 := hE.keys.at' (by omega)
                      obtain ⟨x6, y6, _, hc6, hc6'⟩ := keys_at hE.keys hltk6
                      clear hD
                      go_wp2
                      all_goals try (go_ret; exact ⟨retB_no _, _, rfl⟩)
                      go_round
                      case rel => exact ⟨k6 + 1, _, by omega, by go_num, rfl, by omega, by omega⟩
                      case measure => simp [intOf]; omega
                    · have hF' : Hid (AllUp FitD ds (k4 + 1)) := AllUp.succ hF.out hdd.out hFd.out
                      clear hD
                      go_wp2
                      rw [← ha4]
                      go_round
                      case rel => exact ⟨k4 + 1, _, by omega, by go_num, rfl, by omega, by omega, hF'⟩
                      case measure => simp [intOf]; omega
            · have hfin : Hid (Fits mx cr lg ds) := ⟨hl1.out, hl2.out, hl3.out, hG.out, hF.out.all (by have := hD.len; omega)⟩
              clear hD
              go_wp2
              go_ret
              exact ⟨retB_yes hfin.out, _, rfl⟩

end Go.Proofs.Qxb6601949a.Sc
