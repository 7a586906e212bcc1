/- THE SCRIPT LAWS: the gates (zzBytes_.., scriptFits, reportsFit, logsInRange). -/
import Derived.Test.Qxb6601949aScMem
namespace Go.Proofs.Qxb6601949a.Sc
open Go.RowKit
set_option linter.unusedVariables false
set_option linter.unusedSimpArgs false

/-- A line of a log, as the law describes it. -/
structure Dp where
  log : Int
  id : ByteArray
  ts : Int
  to : List ByteArray
  keys : List (ByteArray × Bool)

/-- One delivery's five cells at ⟨b, o⟩ and what hangs on them. -/
structure DelAt (w : World) (b o : Nat) (d : Dp) (t k : Sl) : Prop where
  c0 : w.cell? ⟨b, o, none⟩ = some (.int .i64 d.log)
  c1 : w.cell? ⟨b, o + 1, none⟩ = some (.string d.id)
  c2 : w.cell? ⟨b, o + 2, none⟩ = some (.int .u64 d.ts)
  c3 : w.cell? ⟨b, o + 3, none⟩ = some (.slice t.a t.n t.cap)
  c4 : w.cell? ⟨b, o + 4, none⟩ = some (.slice k.a k.n k.cap)
  to : CellsAt w t 1 (strsC d.to)
  keys : CellsAt w k 2 (keysC d.keys)
theorem DelAt.of_below {w w' : World} {b o : Nat} {d : Dp} {t k : Sl} (h : DelAt w b o d t k) (hb : Below w.heap.size w w') : DelAt w' b o d t k :=
  ⟨(hb.cell (World.block_lt_of_cell? _ _ h.c0)).trans h.c0, (hb.cell (World.block_lt_of_cell? _ _ h.c1)).trans h.c1, (hb.cell (World.block_lt_of_cell? _ _ h.c2)).trans h.c2, (hb.cell (World.block_lt_of_cell? _ _ h.c3)).trans h.c3, (hb.cell (World.block_lt_of_cell? _ _ h.c4)).trans h.c4, h.to.of_below hb, h.keys.of_below hb⟩

/-- A slice of deliveries. -/
structure DsAt (w : World) (s : Sl) (ds : List Dp) : Prop where
  len : ds.length = s.n
  at' : 0 < s.n → s.a = some ⟨s.b, s.off, none⟩
  nil : s.a = none → s.n = 0
  el : ∀ (i : Nat) (d : Dp), ds[i]? = some d → ∃ t k : Sl, DelAt w s.b (s.off + i * 5) d t k
theorem DsAt.of_below {w w' : World} {s : Sl} {ds : List Dp} (h : DsAt w s ds) (hb : Below w.heap.size w w') : DsAt w' s ds :=
  ⟨h.len, h.at', h.nil, fun i d hd => by obtain ⟨t, k, h1⟩ := h.el i d hd; exact ⟨t, k, h1.of_below hb⟩⟩
theorem DsAt.get {w : World} {s : Sl} {ds : List Dp} (h : DsAt w s ds) {i : Nat} (hi : i < s.n) : ∃ (d : Dp) (t k : Sl), ds[i]? = some d ∧ DelAt w s.b (s.off + i * 5) d t k := by
  have h1 : ds[i]? = some (ds[i]'(by rw [h.len]; exact hi)) := List.getElem?_eq_getElem _
  obtain ⟨t, k, h2⟩ := h.el i _ h1
  exact ⟨_, t, k, h1, h2⟩
theorem strs_at {w : World} {s : Sl} {ss : List ByteArray} (h : CellsAt w s 1 (strsC ss)) {i : Nat} (hi : i < s.n) : ∃ x, ss[i]? = some x ∧ w.cell? ⟨s.b, s.off + i, none⟩ = some (.string x) := by
  have hl := h.len
  rw [strsC_length] at hl
  have h1 : ss[i]? = some (ss[i]'(by omega)) := List.getElem?_eq_getElem _
  exact ⟨_, h1, h.cell _ _ (strs_get h1)⟩
theorem keys_at {w : World} {s : Sl} {ss : List (ByteArray × Bool)} (h : CellsAt w s 2 (keysC ss)) {i : Nat} (hi : i < s.n) : ∃ x y, ss[i]? = some (x, y) ∧ w.cell? ⟨s.b, s.off + i * 2, none⟩ = some (.string x) ∧ w.cell? ⟨s.b, s.off + i * 2 + 1, none⟩ = some (.bool y) := by
  have hl := h.len
  rw [keysC_length] at hl
  have h1 : ss[i]? = some ((ss[i]'(by omega)).1, (ss[i]'(by omega)).2) := List.getElem?_eq_getElem _
  obtain ⟨h2, h3⟩ := keys_get h1
  exact ⟨_, _, h1, h.cell _ _ h2, by rw [Nat.add_assoc]; exact h.cell _ _ h3⟩
theorem logs_at {w : World} {s : Sl} {ss : List Lp} (h : CellsAt w s 3 (logsC ss)) {i : Nat} (hi : i < s.n) : ∃ x0 x1 x2, ss[i]? = some ⟨x0, x1, x2⟩ ∧ w.cell? ⟨s.b, s.off + i * 3, none⟩ = some (.string x0) ∧ w.cell? ⟨s.b, s.off + i * 3 + 1, none⟩ = some (.string x1) ∧ w.cell? ⟨s.b, s.off + i * 3 + 2, none⟩ = some (.string x2) := by
  have hl := h.len
  rw [logsC_length] at hl
  have h1 : ss[i]? = some (ss[i]'(by omega)) := List.getElem?_eq_getElem _
  obtain ⟨h2, h3, h4⟩ := logs_get h1
  exact ⟨_, _, _, h1, h.cell _ _ h2, by rw [Nat.add_assoc]; exact h.cell _ _ h3, by rw [Nat.add_assoc]; exact h.cell _ _ h4⟩

/-- 'It returns a bool; if that is true then p.' -/
def RetB (e : Ending) (p : Prop) : Prop := ∃ v : Bool, e = .returned (.bool v) ∧ (v = true → p)
theorem retB_no (p : Prop) : RetB (.returned (.bool false)) p := ⟨false, rfl, fun h => by cases h⟩
theorem retB_yes {p : Prop} (h : p) : RetB (.returned (.bool true)) p := ⟨true, rfl, fun _ => h⟩

set_option maxRecDepth 100000 in
set_option maxHeartbeats 2000000 in
theorem zzBytes30_any (w : World) (cmp : Bool) (s1 s2 s3 : Sl) (cr : List ByteArray) (lg : List Lp) (ds : List Dp) (hCr : CellsAt w s1 1 (strsC cr)) (hLg : CellsAt w s2 3 (logsC lg)) (hD : DsAt w s3 ds) :
    Calls Try.prog 30 #[.bool cmp, .slice s1.a s1.n s1.cap, .slice s2.a s2.n s2.cap, .slice s3.a s3.n s3.cap] w fun e w' => RetB e True ∧ w' = w := by
  by_cases hz1 : (1048576 : Int) < (s1.n : Int)
  · go_enter Try.func30, Try.ntmps30
    go_wp2
    go_ret
    exact ⟨retB_no _, rfl⟩
  have hz1d : decide ((1048576 : Int) < (s1.n : Int)) = false := decide_eq_false hz1
  go_enter Try.func30, Try.ntmps30
  go_wp2
  go_loop [9, 10] (fun t i => ∃ (k : Nat) (m : Int), k ≤ s1.n ∧ i = .int .i64 k ∧ t = .int .i64 m ∧ 0 ≤ m ∧ m ≤ 1048576) (fun _ i => s1.n - (intOf i).toNat)
  case atStart => exact ⟨0, _, Nat.zero_le _, rfl, rfl, by omega, by omega⟩
  case round =>
    obtain ⟨k1, m1, hk1, rfl, rfl, hm10, hm11⟩ := hrel
    by_cases hltk1 : k1 < s1.n
    · have ha1 := hCr.at' (by omega)
      obtain ⟨x1, _, hc1⟩ := strs_at hCr hltk1
      clear hD hLg hCr
      go_wp2
      all_goals try (go_ret; exact ⟨retB_no _, rfl⟩)
      go_round
      case rel => exact ⟨k1 + 1, _, by omega, by go_num, rfl, by omega, by omega⟩
      case measure => simp [intOf]; omega
    · by_cases hs1 : (1048576 : Int) < (s2.n : Int)
      · go_wp2
        go_ret
        exact ⟨retB_no _, rfl⟩
      by_cases hs2 : (1048576 : Int) < m1 + (s2.n : Int)
      · go_wp2
        go_ret
        exact ⟨retB_no _, rfl⟩
      have hs1d : decide ((1048576 : Int) < (s2.n : Int)) = false := decide_eq_false hs1
      have hs2d : decide ((1048576 : Int) < m1 + (s2.n : Int)) = false := decide_eq_false hs2
      go_wp2
      go_loop [9, 11] (fun t i => ∃ (k : Nat) (m : Int), k ≤ s2.n ∧ i = .int .i64 k ∧ t = .int .i64 m ∧ 0 ≤ m ∧ m ≤ 1048576) (fun _ i => s2.n - (intOf i).toNat)
      case atStart => exact ⟨0, _, Nat.zero_le _, rfl, rfl, by omega, by omega⟩
      case round =>
        obtain ⟨k2, m2, hk2, rfl, rfl, hm20, hm21⟩ := hrel
        by_cases hltk2 : k2 < s2.n
        · have ha2 := hLg.at' (by omega)
          obtain ⟨x0, x1, x2, _, e0, e1, e2⟩ := logs_at hLg hltk2
          clear hD hLg hCr
          go_wp2
          all_goals try (go_ret; exact ⟨retB_no _, rfl⟩)
          go_round
          case rel => exact ⟨k2 + 1, _, by omega, by go_num, rfl, by omega, by omega⟩
          case measure => simp [intOf]; omega
        · by_cases hr1 : (1048576 : Int) < (s3.n : Int)
          · go_wp2
            go_ret
            exact ⟨retB_no _, rfl⟩
          by_cases hr2 : (1048576 : Int) < m2 + (s3.n : Int)
          · go_wp2
            go_ret
            exact ⟨retB_no _, rfl⟩
          have hr1d : decide ((1048576 : Int) < (s3.n : Int)) = false := decide_eq_false hr1
          have hr2d : decide ((1048576 : Int) < m2 + (s3.n : Int)) = false := decide_eq_false hr2
          go_wp2
          go_loop [9, 12] (fun t i => ∃ (k : Nat) (m : Int), k ≤ s3.n ∧ i = .int .i64 k ∧ t = .int .i64 m ∧ 0 ≤ m ∧ m ≤ 1048576) (fun _ i => s3.n - (intOf i).toNat)
          case atStart => exact ⟨0, _, Nat.zero_le _, rfl, rfl, by omega, by omega⟩
          case round =>
            obtain ⟨k3, m3, hk3, rfl, rfl, hm30, hm31⟩ := hrel
            by_cases hltk3 : k3 < s3.n
            · have ha3 := hD.at' (by omega)
              obtain ⟨d, tt, kk, _, hE⟩ := hD.get hltk3
              have c1 := hE.c1
              have c3 := hE.c3
              have c4 := hE.c4
              by_cases hp1 : (1048576 : Int) < (d.id.size : Int)
              · go_wp2
                go_ret
                exact ⟨retB_no _, rfl⟩
              by_cases hp2 : (1048576 : Int) < m3 + (d.id.size : Int)
              · go_wp2
                go_ret
                exact ⟨retB_no _, rfl⟩
              by_cases hp3 : (1048576 : Int) < (tt.n : Int)
              · go_wp2
                go_ret
                exact ⟨retB_no _, rfl⟩
              by_cases hp4 : (1048576 : Int) < m3 + (d.id.size : Int) + (tt.n : Int)
              · go_wp2
                go_ret
                exact ⟨retB_no _, rfl⟩
              have hp1d : decide ((1048576 : Int) < (d.id.size : Int)) = false := decide_eq_false hp1
              have hp2d : decide ((1048576 : Int) < m3 + (d.id.size : Int)) = false := decide_eq_false hp2
              have hp3d : decide ((1048576 : Int) < (tt.n : Int)) = false := decide_eq_false hp3
              have hp4d : decide ((1048576 : Int) < m3 + (d.id.size : Int) + (tt.n : Int)) = false := decide_eq_false hp4
              go_wp2
              go_loop [9, 13] (fun t i => ∃ (k : Nat) (m : Int), k ≤ tt.n ∧ i = .int .i64 k ∧ t = .int .i64 m ∧ 0 ≤ m ∧ m ≤ 1048576) (fun _ i => tt.n - (intOf i).toNat)
              case atStart => exact ⟨0, _, Nat.zero_le _, rfl, rfl, by omega, by omega⟩
              case round =>
                obtain ⟨k4, m4, hk4, rfl, rfl, hm40, hm41⟩ := hrel
                by_cases hltk4 : k4 < tt.n
                · have ha4 := hE.to.at' (by omega)
                  obtain ⟨x4, _, hc4⟩ := strs_at hE.to hltk4
                  clear hD hLg hCr
                  go_wp2
                  all_goals try (go_ret; exact ⟨retB_no _, rfl⟩)
                  go_round
                  case rel => exact ⟨k4 + 1, _, by omega, by go_num, rfl, by omega, by omega⟩
                  case measure => simp [intOf]; omega
                · by_cases hq1 : (1048576 : Int) < (kk.n : Int)
                  · go_wp2
                    go_ret
                    exact ⟨retB_no _, rfl⟩
                  by_cases hq2 : (1048576 : Int) < m4 + (kk.n : Int)
                  · go_wp2
                    go_ret
                    exact ⟨retB_no _, rfl⟩
                  have hq1d : decide ((1048576 : Int) < (kk.n : Int)) = false := decide_eq_false hq1
                  have hq2d : decide ((1048576 : Int) < m4 + (kk.n : Int)) = false := decide_eq_false hq2
                  go_wp2
                  go_loop [9, 14] (fun t i => ∃ (k : Nat) (m : Int), k ≤ kk.n ∧ i = .int .i64 k ∧ t = .int .i64 m ∧ 0 ≤ m ∧ m ≤ 1048576) (fun _ i => kk.n - (intOf i).toNat)
                  case atStart => exact ⟨0, _, Nat.zero_le _, rfl, rfl, by omega, by omega⟩
                  case round =>
                    obtain ⟨k5, m5, hk5, rfl, rfl, hm50, hm51⟩ := hrel
                    by_cases hltk5 : k5 < kk.n
                    · have ha5 := hE.keys.at' (by omega)
                      obtain ⟨x5, y5, _, hc5, hc5'⟩ := keys_at hE.keys hltk5
                      clear hD hLg hCr
                      go_wp2
                      all_goals try (go_ret; exact ⟨retB_no _, rfl⟩)
                      go_round
                      case rel => exact ⟨k5 + 1, _, by omega, by go_num, rfl, by omega, by omega⟩
                      case measure => simp [intOf]; omega
                    · clear hD hLg hCr
                      go_wp2
                      rw [← ha3]
                      go_round
                      case rel => exact ⟨k3 + 1, _, by omega, by go_num, rfl, by omega, by omega⟩
                      case measure => simp [intOf]; omega
            · clear hD hLg hCr
              go_wp2
              go_ret
              exact ⟨retB_yes trivial, rfl⟩

end Go.Proofs.Qxb6601949a.Sc
