/- THE SCRIPT LAWS: ordersMatch. -/
import Derived.Test.Qxb6601949aScAcc
import Derived.Test.Qxb6601949aScNum
import Derived.Test.Qxb6601949aScDup
namespace Go.Proofs.Qxb6601949a.Sc
open Go.RowKit Go.Maps
set_option linter.unusedVariables false
set_option linter.unusedSimpArgs false

def pickAt (ds : List Dp) (nums : List Nat) (dups : List Bool) (k i : Nat) : List Nat := match ds[i]?, nums[i]?, dups[i]? with
  | some d, some n, some b => if d.log = (k : Int) ∧ b = false then [n] else []
  | _, _, _ => []
def wantL (ds : List Dp) (nums : List Nat) (dups : List Bool) (k : Nat) : Nat → List Nat
  | 0 => []
  | i + 1 => wantL ds nums dups k i ++ pickAt ds nums dups k i
theorem wantL_len (ds : List Dp) (nums : List Nat) (dups : List Bool) (k : Nat) : ∀ i, (wantL ds nums dups k i).length ≤ i
  | 0 => Nat.le_refl _
  | i + 1 => by
    have h1 := wantL_len ds nums dups k i
    have h2 : (pickAt ds nums dups k i).length ≤ 1 := by
      unfold pickAt
      split
      · split <;> simp
      · simp
    rw [wantL, List.length_append]
    omega
def countS (l : List Nat) : Nat → Nat
  | 0 => 0
  | m + 1 => countS l m + if (plc l m).isSome then 1 else 0
theorem countS_le (l : List Nat) : ∀ m, countS l m ≤ m
  | 0 => Nat.le_refl _
  | m + 1 => by have := countS_le l m; rw [countS]; split <;> omega
theorem bools_get {l : List Bool} {i : Nat} {x : Bool} (h : l[i]? = some x) : (boolsC l)[i]? = some (.bool x) := by simp [boolsC, h]

set_option maxRecDepth 100000 in
set_option maxHeartbeats 4000000 in
theorem ordersMatch_any (w : World) (T : Nat → Nat) (B : Nat) (g : G) (S : St w T B g) (sD sN sU : Sl) (ds : List Dp) (nums : List Nat) (dups : List Bool) (nm : Nat)
    (hD : DsAt w sD ds) (hN : CellsAt w sN 1 (intsC nums)) (hU : CellsAt w sU 1 (boolsC dups)) (hn1 : nums.length = ds.length) (hn2 : dups.length = ds.length) (hdl : ds.length ≤ 4096) (hnm : nm ≤ 4096) (hgl : g.desc.length ≤ 4096) (hll : g.lss.n = g.desc.length)
    (hpl : ∀ k, (g.pl k).length ≤ 4096) (hpx : ∀ k x, x ∈ g.pl k → x ≤ 4096) (hnx : ∀ x, x ∈ nums → x ≤ 4096)
    (hO : ∀ k, k < g.desc.length → g.ord k = wantL ds nums dups k ds.length) (hP : ∀ k p m, k < g.desc.length → (g.ord k)[p]? = some m → plc (g.pl k) m = some p) (hC : ∀ k, k < g.desc.length → countS (g.pl k) nm = (g.ord k).length) :
    Calls Try.prog 29 #[.slice g.lss.a g.lss.n g.lss.cap, .slice sD.a sD.n sD.cap, .slice sN.a sN.n sN.cap, .slice sU.a sU.n sU.cap, .int .i64 (nm : Int)] w fun e w' => e = .returned (.bool true) ∧ Below w.heap.size w w' := by
  have hdn := hD.len
  have hnn : sN.n = ds.length := by have := hN.len; rw [intsC_length] at this; omega
  have hun : sU.n = ds.length := by have := hU.len; simp [boolsC] at this; omega
  have hdb : sD.n ≤ 4096 := by omega
  have hlb : g.lss.n ≤ 4096 := by omega
  obtain ⟨i3, hi3, hy0, hy1, hy2⟩ := info_parts info3
  go_enter Try.func29, Try.ntmps29
  go_wp2
  go_loopw [11] (fun i wr => ∃ k : Nat, k ≤ g.lss.n ∧ i = .int .i64 k ∧ Below w.heap.size w wr) (fun i _ => g.lss.n - (intOf i).toNat)
  case atStart => exact ⟨0, Nat.zero_le _, rfl, Below.refl _ _⟩
  case round =>
    obtain ⟨k, hk, rfl, hB⟩ := hrel
    by_cases hlt : k < g.lss.n
    · have hkd : k < g.desc.length := by omega
      have hOk := hO k hkd
      go_wp2
      go_loopw [12, 13] (fun v i wr => ∃ j : Nat, j ≤ sD.n ∧ i = .int .i64 j ∧ wr.ownsRow w.heap.size 3 1 v (wantL ds nums dups k j).length (intsC (wantL ds nums dups k j)) ∧ Below w.heap.size w wr) (fun _ i _ => sD.n - (intOf i).toNat)
      case atStart => exact ⟨0, Nat.zero_le _, rfl, World.ownsRow_nil _ _ _ _, hB⟩
      case round =>
        obtain ⟨j, hj, rfl, hW, hBj⟩ := hrel
        clear hB
        by_cases hjl : j < sD.n
        · obtain ⟨d, t0, k0, hd, hE0⟩ := hD.get hjl
          have hE := hE0.of_below (w' := wr) hBj
          obtain ⟨x, hx⟩ : ∃ x, nums[j]? = some x := ⟨nums[j]'(by omega), List.getElem?_eq_getElem _⟩
          obtain ⟨bb, hbb⟩ : ∃ b, dups[j]? = some b := ⟨dups[j]'(by omega), List.getElem?_eq_getElem _⟩
          have cN := (hN.of_below hBj).cell _ _ (ints_get hx)
          have cU := (hU.of_below hBj).cell _ _ (bools_get hbb)
          have c0 := hE.c0
          have aD := hD.at' (by omega)
          have aN := hN.at' (by omega)
          have aU := hU.at' (by omega)
          have hjI : (j : Int) < (sD.n : Int) := by omega
          have hjN : (j : Int) < (sN.n : Int) := by omega
          have hjU : (j : Int) < (sU.n : Int) := by omega
          have hwl := wantL_len ds nums dups k j
          have hlen : (wantL ds nums dups k j).length + 1 ≤ 8192 := by omega
          have hFr : ∃ fa fc, u12 = .slice fa (wantL ds nums dups k j).length fc := by
            obtain ⟨s', h1, h2, _⟩ := ownsRow_cells hW
            exact ⟨_, _, by rw [h1, h2]⟩
          obtain ⟨fa, fc, rfl⟩ := hFr
          have hbs := hBj.size
          have hjl' : Hid (j < sD.n) := hjl
          have hst : Hid (wantL ds nums dups k (j + 1) = wantL ds nums dups k j ++ if d.log = (k : Int) ∧ bb = false then [x] else []) := by
            show _ = _
            rw [wantL, pickAt, hd, hx, hbb]
          by_cases e1 : d.log = (k : Int)
          · have q1 : (d.log == (k : Int)) = true := beq_iff_eq.2 e1
            cases bb with
            | true =>
              clear S hD hN hU hd hx hbb hE hE0 hO hP hC hpl hpx hnx hOk hwl hn1 hn2 hdn hnn hun hll
              go_wp2
              go_roundw
              case rel => exact ⟨j + 1, hjl'.out, by go_num, by rw [hst.out]; simpa using hW, hBj⟩
              case measure => have := hjl'.out; simp [intOf]; omega
            | false =>
              have hst2 : Hid (wantL ds nums dups k (j + 1) = wantL ds nums dups k j ++ [x]) := by show _ = _; rw [hst.out, if_pos ⟨e1, rfl⟩]
              clear S hD hN hU hd hx hbb hE hE0 hO hP hC hpl hpx hnx hOk hwl hn1 hn2 hdn hnn hun hll hst
              generalize wantL ds nums dups k j = F at *
              go_wp2_with (at_builtin; refine wpList_append_lies _ rfl _ _ 25 rfl w.heap.size 3 i3 _ 1 8 Try.underlying25 hi3 hy0 hy1 hy2 rfl (by omega) (.slice fa F.length fc) F.length _ rfl (hW.alloc _) ⟨wr.heap.size, 0, none⟩ 1 1 [.int .i64 (x : Int)] rfl rfl (by have := cell_one_new wr (.int .i64 (x : Int)) 3; simpa using this) (by simp [Value.oneCell']) (by omega) (by unfold maxLen; omega) (by omega) (by simp; omega) (wr.heap.size + 1) (by simp) ?_; intro gg cap w1 hown1 hgrow hat hltg)
              have hX1 := (hBj.alloc hBj.size (.cells #[.int .i64 (x : Int)] 3)).grown hgrow (by have := hBj.size; simp; omega) (fun j hj => (hW.lt j hj).1)
              rw [← aD, ← aU, ← aN]
              go_roundw
              case rel => exact ⟨j + 1, hjl'.out, by go_num, by rw [hst2.out]; simpa [intsC] using hown1, hX1⟩
              case measure => have := hjl'.out; simp [intOf]; omega
          · have q1 : (d.log == (k : Int)) = false := beq_eq_false_iff_ne.2 e1
            have hst2 : Hid (wantL ds nums dups k (j + 1) = wantL ds nums dups k j) := by show _ = _; rw [hst.out, if_neg (fun h => e1 h.1)]; simp
            clear S hD hN hU hd hx hbb hE hE0 hO hP hC hpl hpx hnx hOk hwl hn1 hn2 hdn hnn hun hll hst
            go_wp2
            go_roundw
            case rel => exact ⟨j + 1, hjl'.out, by go_num, by rw [hst2.out]; exact hW, hBj⟩
            case measure => have := hjl'.out; simp [intOf]; omega
        · obtain rfl : j = sD.n := by omega
          rw [← hdn, ← hOk] at hW
          obtain ⟨T', _, _, S'⟩ := S.below hBj
          obtain ⟨d, hd⟩ : ∃ d, g.desc[k]? = some d := ⟨_, List.getElem?_eq_getElem hkd⟩
          have hLb := S'.lblk k d hd
          have hPo := S'.pl k hkd
          obtain ⟨sw, hwv, hwn, hwc⟩ := ownsRow_cells hW
          obtain ⟨so, hov, hon, hoc, _⟩ := (S'.ord k hkd).cells
          have hlsc := S'.logs.cells.cell k (.pointer (some ⟨g.L k, 0, none⟩)) (by simp [ptrsC, hkd])
          have hla := S'.logs.cells.at' (by omega)
          have hord := order_any wr (g.L k) (g.ordV k) (g.plV k) d hLb
          rw [hov] at hord
          have hplace : ∀ (wx : World) (hx : wx.heap = wr.heap) (m : Nat) (hm : m ≤ 4096), Calls Try.prog 49 #[.pointer (some ⟨g.L k, 0, none⟩), .int .i64 m] wx fun e w' => e = .returned (.tuple #[.int .i64 (((plc (g.pl k) m).getD 0 : Nat) : Int), .bool (plc (g.pl k) m).isSome]) ∧ w' = wx := fun wx hx m hm =>
            zzPlace_any wx (g.L k) (g.ordV k) d T' (7 + 3 * k) (g.plV k) (g.pl k) (by show wx.heap[g.L k]? = _; rw [hx]; exact hLb) ⟨ownsRow_blocks hPo.row (fun b _ => by rw [hx]), hPo.tag⟩ (by have := hpl k; omega) (fun x hx => by have := hpx k x hx; omega) m (by omega)
          have hplk := hpl k
          have hPk : ∀ p m, (g.ord k)[p]? = some m → plc (g.pl k) m = some p := fun p m h => hP k p m hkd h
          have hCk := hC k hkd
          have hwl : (g.ord k).length ≤ 4096 := by rw [hOk]; have := wantL_len ds nums dups k ds.length; omega
          obtain ⟨wa, wb, wf, wn, wcap⟩ := sw
          obtain ⟨oa, ob, of, on, ocap⟩ := so
          simp only at hwn hon hwc hoc hwv hov hord
          subst hwv hwn hon
          have hwat : ∀ (p m : Nat), (g.ord k)[p]? = some m → wa = some ⟨wb, wf, none⟩ ∧ oa = some ⟨ob, of, none⟩ ∧ wr.cell? ⟨wb, wf + p, none⟩ = some (.int .i64 (m : Int)) ∧ wr.cell? ⟨ob, of + p, none⟩ = some (.int .i64 (m : Int)) := fun p m h => by
            have hl := get_lt h
            exact ⟨hwc.at' (by show 0 < (g.ord k).length; omega), hoc.at' (by show 0 < (g.ord k).length; omega), hwc.cell _ _ (ints_get h), hoc.cell _ _ (ints_get h)⟩
          have hlt' : Hid (k < g.lss.n) := hlt
          have hkI : (k : Int) < (g.lss.n : Int) := by omega
          clear S S' hD hN hU hO hP hC hpl hpx hnx hOk hn1 hn2 hdn hnn hun hll hW hLb hPo hwc hoc hd hlt
          generalize g.ord k = W at *
          generalize g.pl k = PL at *
          go_upto_region 13 with (go_at_call 48; refine hord.mono ?_; rintro e w1 ⟨rfl, rfl⟩)
          clear hord
          go_wp2_with fail
          go_loopw [15] (fun p wx => ∃ (j q : Nat), j ≤ W.length ∧ p = .int .i64 j ∧ wx = w1.drewN q) (fun p _ => W.length - (intOf p).toNat)
          case atStart => exact ⟨0, 0, Nat.zero_le _, rfl, rfl⟩
          case round =>
            obtain ⟨p, q, hp, rfl, rfl⟩ := hrel
            by_cases hpl : p < W.length
            · obtain ⟨m, hm⟩ : ∃ m, W[p]? = some m := ⟨W[p], List.getElem?_eq_getElem _⟩
              obtain ⟨rfl, rfl, cw, co⟩ := hwat p m hm
              have hpm := hPk p m hm
              have hm4 : m ≤ 4096 := by
                have : m < PL.length := by
                  unfold plc at hpm
                  cases hh : PL[m]? with
                  | none => rw [hh] at hpm; cases hpm
                  | some y => exact get_lt hh
                omega
              have hpI : (p : Int) < (W.length : Int) := by omega
              have hpl' : Hid (p < W.length) := hpl
              have hpc := fun (wx : World) (hx : wx.heap = w1.heap) => hplace wx hx m hm4
              rw [hpm] at hpc
              simp only [Option.getD_some, Option.isSome_some] at hpc
              clear hwat hPk hm hpm hplace hpl hCk
              go_wp2_with fail
              go_quiet (fail)
              go_upto_region 18 with fail
              go_region_held3 (fun w' => w'.cell? ⟨g.lss.b, g.lss.off + k, none⟩ = some (.pointer (some ⟨g.L k, 0, none⟩)) ∧ w'.cell? ⟨wb, wf + p, none⟩ = some (.int .i64 (m : Int)))
                (go_keep)
                ((go_at_call 49; refine (hpc _ (by exact rfl)).mono ?_; rintro e w2 ⟨rfl, rfl⟩))
              all_goals go_wp2_with fail
              go_roundw
              case rel => exact ⟨p + 1, q + nq + 1, hpl'.out, by go_num, rfl⟩
              case measure => have := hpl'.out; simp [intOf]; omega
            · obtain rfl : p = W.length := by omega
              go_wp2_with fail
              go_loop [18, 19] (fun c i => ∃ m : Nat, m ≤ nm ∧ i = .int .i64 m ∧ c = .int .i64 ((countS PL m : Nat) : Int)) (fun _ i => nm - (intOf i).toNat)
              case atStart => exact ⟨0, Nat.zero_le _, rfl, rfl⟩
              case round =>
                obtain ⟨m, hm, rfl, rfl⟩ := hrel
                by_cases hml : m < nm
                · have hpc := hplace (w1.drewN q) rfl m (by omega)
                  have hcl := countS_le PL m
                  have hmI : (m : Int) < (nm : Int) := by omega
                  have hml' : Hid (m < nm) := hml
                  have hcs : Hid (countS PL (m + 1) = countS PL m + if (plc PL m).isSome then 1 else 0) := rfl
                  clear hplace hPk hwat hCk
                  cases hpp : plc PL m with
                  | none =>
                    rw [hpp] at hpc hcs
                    simp only [Option.getD_none, Option.isSome_none] at hpc
                    go_wp2_with (go_at_call 49; refine hpc.mono ?_; rintro e w2 ⟨rfl, rfl⟩)
                    go_round
                    case rel => exact ⟨m + 1, hml'.out, by go_num, by rw [hcs.out]; rfl⟩
                    case measure => have := hml'.out; simp [intOf]; omega
                  | some y =>
                    rw [hpp] at hpc hcs
                    simp only [Option.getD_some, Option.isSome_some] at hpc
                    go_wp2_with (go_at_call 49; refine hpc.mono ?_; rintro e w2 ⟨rfl, rfl⟩)
                    go_round
                    case rel => exact ⟨m + 1, hml'.out, by go_num, by rw [hcs.out]; go_num⟩
                    case measure => have := hml'.out; simp [intOf]; omega
                · obtain rfl : m = nm := by omega
                  rw [hCk]
                  clear hplace hPk hwat hCk
                  go_wp2_with fail
                  rw [← hla]
                  go_roundw
                  case rel => exact ⟨k + 1, hlt'.out, by go_num, below_drewN hBj _⟩
                  case measure => have := hlt'.out; simp [intOf]; omega
    · obtain rfl : k = g.lss.n := by omega
      clear S hD hN hU hO hP hC
      go_wp2
      go_ret
      exact ⟨rfl, hB⟩

end Go.Proofs.Qxb6601949a.Sc
