/- THE SCRIPT LAWS: runScript: the walk. -/
import Derived.Test.Qxb6601949aScRun
import Derived.Test.Qxb6601949aScFits
namespace Go.Proofs.Qxb6601949a.Sc
open Go.RowKit Go.Maps
set_option linter.unusedVariables false
set_option linter.unusedSimpArgs false

/-- WHAT runScript LEAVES. -/
def RunPost (w : World) (cmp : Bool) (crs : Sl) (cr : List ByteArray) (lg : List Lp) (ds : List Dp) (e : Ending) (w' : World) : Prop :=
  ∃ T g, e = .returned (.tuple #[.pointer (some ⟨g.R, 0, none⟩), .slice g.lss.a g.lss.n g.lss.cap]) ∧ St w' T w.heap.size g ∧ Good g ∧ ps g = runP lg ds ds.length ∧ g.cr = cr ∧ g.lss.n = lg.length ∧ g.desc = lg ∧ Below w.heap.size w w'

structure Go2 (w wr : World) (lg : List Lp) (ds : List Dp) (k : Nat) (g0 : G) (T : Nat → Nat) (g : G) : Prop where
  st : St wr T w.heap.size g
  good : Good g
  same : Same g0 g
  ps : ps g = runP lg ds k
  below : Below w.heap.size w wr

theorem six_below' {w w' : World} {b o : Nat} {d : Dp} {t k : Sl} (h : DelAt w b o d t k) {S0 q qq : Nat} {v : Value} (hq : d.log = (qq : Int)) (hp : w.cell? ⟨S0, q, none⟩ = some v) (hb : Below w.heap.size w w') :
    w'.cell? ⟨b, o, none⟩ = some (.int .i64 (qq : Int)) ∧ w'.cell? ⟨b, o + 1, none⟩ = some (.string d.id) ∧ w'.cell? ⟨b, o + 2, none⟩ = some (.int .u64 d.ts) ∧ w'.cell? ⟨b, o + 3, none⟩ = some (.slice t.a t.n t.cap) ∧ w'.cell? ⟨b, o + 4, none⟩ = some (.slice k.a k.n k.cap) ∧ w'.cell? ⟨S0, q, none⟩ = some v := by
  rw [← hq]; exact six_below h hp hb
theorem six_keep0' {w w1 w' : World} {T1 T2 : Nat → Nat} {b o : Nat} {d : Dp} {t k : Sl} (h : DelAt w b o d t k) {S0 q qq : Nat} {v : Value} (hq : d.log = (qq : Int)) (hp : w.cell? ⟨S0, q, none⟩ = some v) (hb : Below w.heap.size w w1) (K : Keep0 T1 T2 w1 w') (t1 : T1 b = 0) (t2 : T1 S0 = 0) :
    w'.cell? ⟨b, o, none⟩ = some (.int .i64 (qq : Int)) ∧ w'.cell? ⟨b, o + 1, none⟩ = some (.string d.id) ∧ w'.cell? ⟨b, o + 2, none⟩ = some (.int .u64 d.ts) ∧ w'.cell? ⟨b, o + 3, none⟩ = some (.slice t.a t.n t.cap) ∧ w'.cell? ⟨b, o + 4, none⟩ = some (.slice k.a k.n k.cap) ∧ w'.cell? ⟨S0, q, none⟩ = some v := by
  rw [← hq]; exact six_keep0 h hp hb K t1 t2

set_option maxRecDepth 100000 in
set_option maxHeartbeats 4000000 in
theorem runScript_any (w : World) (cmp : Bool) (crs s2 s3 : Sl) (cr : List ByteArray) (lg : List Lp) (ds : List Dp) (mx : Nat) (hmx : mx ≤ 4096) (hF : Fits mx cr lg ds) (hR : InRange s2.n ds) (hCr : CellsAt w crs 1 (strsC cr)) (hLg : CellsAt w s2 3 (logsC lg)) (hD : DsAt w s3 ds) :
    Calls Try.prog 20 #[.bool cmp, .slice crs.a crs.n crs.cap, .slice s2.a s2.n s2.cap, .slice s3.a s3.n s3.cap] w fun e w' => RunPost w cmp crs cr lg ds e w' := by
  have hl2 : lg.length = s2.n := logs_len hLg
  have hl3 : ds.length = s3.n := hD.len
  have hn2 : s2.n ≤ 4096 := by have := hF.hlg; omega
  have hn3 : s3.n ≤ 4096 := by have := hF.hds; omega
  have hmk := run_make_row' (P := Try.prog) 35 69 (.pointer none) 8 Try.underlying35 info69 rfl .i64 .i64 s2.n (by omega) (by omega)
  have H0 := LC.start w s2.n lg
  go_enter Try.func20, Try.ntmps20
  go_wp2
  clear hmk
  go_loopw [11] (fun i wr => ∃ k : Nat, k ≤ s2.n ∧ i = .int .i64 k ∧ LC w wr s2.n k lg) (fun i _ => s2.n - (intOf i).toNat)
  case atStart => exact ⟨0, Nat.zero_le _, rfl, H0⟩
  case round =>
    obtain ⟨k, hk, rfl, hC⟩ := hrel
    clear H0
    by_cases hlt : k < s2.n
    · obtain ⟨wo, rfl⟩ : ∃ wo : World, wo = wr := ⟨_, rfl⟩
      have ha := hLg.at' (by omega)
      obtain ⟨x0, x1, x2, hx, e0, e1, e2⟩ := logs_at (hLg.of_below hC.below) hlt
      have hC' : Hid (LC w wo s2.n k lg) := hC
      have hx' : Hid (lg[k]? = some ⟨x0, x1, x2⟩) := hx
      have hsz := hC.size
      have hwl : w.heap.size < wo.heap.size := by omega
      obtain ⟨f, hf, _⟩ := hC.row
      have r1 := hf.cell hlt
      have r2 := hf.frozen k
      have hbl : s2.b < w.heap.size := by
        have hh := logs_at hLg hlt
        obtain ⟨_, _, _, _, h0, _⟩ := hh
        exact World.block_lt_of_cell? _ _ h0
      have n1 : w.heap.size ≠ s2.b := by omega
      have n2 : s2.b ≠ w.heap.size := by omega
      have n3 : wo.heap.size ≠ s2.b := by omega
      have n4 : wo.heap.size ≠ w.heap.size := by omega
      have hkI : (k : Int) < (s2.n : Int) := by omega
      have hlt' : Hid (k < s2.n) := hlt
      clear hC hx hf hD hLg hCr hF hR hsz hl2 hl3
      go_upto_region 5 with fail
      go_region_held3 (fun w' => w'.cell? ⟨s2.b, s2.off + k * 3, none⟩ = some (.string x0) ∧ w'.cell? ⟨s2.b, s2.off + k * 3 + 1, none⟩ = some (.string x1) ∧ w'.cell? ⟨s2.b, s2.off + k * 3 + 2, none⟩ = some (.string x2))
        (go_keep)
        ((go_at_call 40; refine (newLog_any _ x0 x1 x2).mono ?_; rintro e w1 ⟨rfl, rfl⟩))
      all_goals go_wp2_with fail
      rw [← ha]
      go_roundw
      case rel => exact ⟨k + 1, hlt'.out, by go_num, hC'.out.step hx'.out⟩
      case measure => have := hlt'.out; simp [intOf]; omega
    · obtain rfl : k = s2.n := by omega
      have hnr := newRun_st w wr s2.n cmp crs cr lg hC hl2 hCr
      clear hC
      go_upto_region 7 with (go_at_call 41; refine hnr.mono ?_; rintro e w1 ⟨T0, g0, rfl, hS0, hG0, hP0, hcmp, hcrs, hcr, hlss, hdesc, hB0⟩)
      clear hnr
      go_wp2
      go_loopw [13] (fun i wr => ∃ (k : Nat) (T : Nat → Nat) (g : G), k ≤ s3.n ∧ i = .int .i64 k ∧ Go2 w wr lg ds k g0 T g) (fun i _ => s3.n - (intOf i).toNat)
      case atStart => exact ⟨0, T0, g0, Nat.zero_le _, rfl, hS0, hG0, Same.refl _, hP0, hB0⟩
      case round =>
        obtain ⟨k, T, g, hk, rfl, hgo⟩ := hrel
        clear hS0 hG0 hP0 hB0
        by_cases hlt : k < s3.n
        · obtain ⟨wo, rfl⟩ : ∃ wo : World, wo = wr := ⟨_, rfl⟩
          obtain ⟨S, hGd, hM, hP, hB⟩ := hgo
          obtain ⟨d, t, kk, hd, hE0⟩ := hD.get hlt
          have hE := hE0.of_below (w' := wo) hB
          have hfd : FitD d := hF.el d (List.mem_of_getElem? hd)
          obtain ⟨q, hq⟩ : ∃ q : Nat, d.log = (q : Int) := ⟨d.log.toNat, by have := hR k d hd; omega⟩
          have hqn : q < s2.n := by have := hR k d hd; omega
          obtain ⟨dq, hdq⟩ : ∃ dq, g.desc[q]? = some dq := by
            have : q < g.desc.length := by rw [hM.desc, hdesc]; omega
            exact ⟨_, List.getElem?_eq_getElem this⟩
          have htn : t.n ≤ 1048576 := by have := strs_len hE0.to; have := hfd.2.1; omega
          have hkn : kk.n ≤ 1048576 := by have := keys_len hE0.keys; have := hfd.2.2.1; omega
          have hbl : s3.b < w.heap.size := World.block_lt_of_cell? _ _ hE0.c0
          have hls : g.lss = ⟨some ⟨w.heap.size, 0, none⟩, w.heap.size, 0, s2.n, s2.n⟩ := by rw [hM.lss, hlss]
          have hL := S.logs
          rw [hls] at hL
          have hlc : wo.cell? ⟨w.heap.size, q, none⟩ = some (.pointer (some ⟨g.L q, 0, none⟩)) := by
            have h1 := hL.cells.cell q (.pointer (some ⟨g.L q, 0, none⟩)) (by have : q < g.desc.length := get_lt hdq; simp [ptrsC, this])
            simpa using h1
          have hT0 : T w.heap.size = 0 := hL.tag (by show 0 < s2.n; omega)
          have hTb : T s3.b = 0 := S.base _ hbl
          have hwl : w.heap.size < wo.heap.size := World.block_lt_of_cell? _ _ hlc
          have hdr : Below wo.heap.size wo wo.drew := (Below.refl _ wo).drew
          have hbnd : Bnd k (ps g) := by rw [hP]; exact runP_bnd lg ds k (by omega)
          have c0 := hE.c0
          have c1 := hE.c1
          have c2 := hE.c2
          have c3 := hE.c3
          have c4 := hE.c4
          rw [hq] at c0
          have hstep : Hid (runP lg ds (k + 1) = stepP g.desc q ⟨d.id, d.ts, d.to, d.keys, q⟩ (ps g)) := by
            show _ = _
            rw [runP_succ hd, hP, hM.desc, hdesc]
            simp only [mpOf, hq, Int.toNat_natCast]
          have ha := hD.at' (by omega)
          have hR1 : g.R = g0.R := hM.R
          have hEE : Hid (DelAt wo s3.b (s3.off + k * 5) d t kk) := hE
          have hqq : Hid (d.log = (q : Int)) := hq
          have hent := fun (wx : World) (hx : Below wo.heap.size wo wx) => toEntry_any wx (q : Int) d.id d.ts t kk d.to d.keys (hE.to.of_below hx) (hE.keys.of_below hx) htn hkn
          have hkI : (k : Int) < (s3.n : Int) := by omega
          have hqI : (q : Int) < (s2.n : Int) := by omega
          have hk4 : k < 4096 := by omega
          have hlt' : Hid (k < s3.n) := hlt
          have hid : d.id.size ≤ 1048576 := hfd.1
          clear hD hLg hCr hF hR hE hE0 hd hq hfd hP hL hls hlt hlss hdesc hcmp hcrs hcr
          go_upto_region 10 with fail
          go_region_held3 (fun w' => w'.cell? ⟨s3.b, s3.off + k * 5, none⟩ = some (.int .i64 (q : Int)) ∧ w'.cell? ⟨s3.b, s3.off + k * 5 + 1, none⟩ = some (.string d.id) ∧ w'.cell? ⟨s3.b, s3.off + k * 5 + 2, none⟩ = some (.int .u64 d.ts) ∧ w'.cell? ⟨s3.b, s3.off + k * 5 + 3, none⟩ = some (.slice t.a t.n t.cap) ∧ w'.cell? ⟨s3.b, s3.off + k * 5 + 4, none⟩ = some (.slice kk.a kk.n kk.cap) ∧ w'.cell? ⟨w.heap.size, q, none⟩ = some (.pointer (some ⟨g.L q, 0, none⟩)))
            (first | go_keep | exact six_keep0' hEE.out hqq.out hlc hb1 K2 (by rw [hT1b]; exact hTb) (by rw [hT10]; exact hT0) | exact six_below' hEE.out hqq.out hlc hb1)
            ((first | (go_at_call 43; refine (hent _ (by exact hdr)).mono ?_; rintro e w1 ⟨t', k', rfl, ht', hk', ct, ck, hb1', lt1, lk1⟩; have ht1 : Hid (t'.n = t.n) := ht'; have hk1 : Hid (k'.n = kk.n) := hk'; clear ht' hk'; have hb1 : Below wo.heap.size wo w1 := below_next hdr hb1'; obtain ⟨T1, K1, hT1, S1⟩ := S.below hb1; have hT1b : T1 s3.b = T s3.b := (hT1 _).trans (if_pos (by omega)); have hT10 : T1 w.heap.size = T w.heap.size := (hT1 _).trans (if_pos hwl)) | (go_at_call 42; refine (line_any _ T1 w.heap.size g S1 hGd k hk4 hbnd q dq hdq g0.R hR1 d.id d.ts t' d.to k' d.keys ⟨ct, fun hh => (hT1 _).trans (if_neg (by have := lt1 hh; have h2 : wo.drew.heap.size = wo.heap.size := rfl; omega))⟩ ⟨ck, fun hh => (hT1 _).trans (if_neg (by have := lk1 hh; have h2 : wo.drew.heap.size = wo.heap.size := rfl; omega))⟩ hid (by have := ht1.out; omega) (by have := hk1.out; omega)).mono ?_; rintro e w2 ⟨rfl, T2, g2, K2, S2, M2, G2, P2⟩)))
          all_goals go_wp2_with fail
          rw [← ha]
          go_roundw
          case rel =>
            have K12 : Keep0 T T2 wo w2 := Keep0.trans ⟨K1.os, K1.tape, K1.output, K1.size, K1.tag, fun b hbb _ => hb1.block b hbb⟩ K2
            exact ⟨k + 1, T2, g2, hlt'.out, by go_num, S2, G2, hM.trans M2, by rw [P2, hstep.out], hB.trans (K12.below S.base S.hB)⟩
          case measure => have := hlt'.out; simp [intOf]; omega
        · obtain rfl : k = s3.n := by omega
          have hR1 := hgo.same.R
          have hfin : RunPost w cmp crs cr lg ds (.returned (.tuple #[.pointer (some ⟨g0.R, 0, none⟩), .slice (some ⟨w.heap.size, 0, none⟩) s2.n s2.n])) wr := by
            refine ⟨T, g, by rw [hgo.same.R, hgo.same.lss, hlss], hgo.st, hgo.good, by rw [hgo.ps, hl3], by rw [hgo.same.cr, hcr], by rw [hgo.same.lss, hlss, hl2], by rw [hgo.same.desc, hdesc], hgo.below⟩
          clear hgo hD hLg hCr hF hR
          go_wp2
          go_ret2
          exact hfin

end Go.Proofs.Qxb6601949a.Sc
