/- THE SCRIPT LAWS: the walk of the law on deliver. -/
import Derived.Test.Qxb6601949aScEnd
import Derived.Test.Qxb6601949aScGate2
import Derived.Test.Qxb6601949aScOpen
namespace Go.Proofs.Qxb6601949a.Sc
open Go.RowKit Go.Maps
set_option linter.unusedVariables false
set_option linter.unusedSimpArgs false

theorem retB_below {w : World} {f : Nat} {args : Array Value} {p : Prop} (h : Calls Try.prog f args w fun e w' => RetB e p ∧ ∃ m, w' = w.drewN m) : Calls Try.prog f args w fun e w' => RetB e p ∧ Below w.heap.size w w' :=
  h.mono fun e w' ⟨h1, m, h2⟩ => ⟨h1, by rw [h2]; exact below_drewN (Below.refl _ _) _⟩

/-- Where the run stands behind runScript. -/
structure Ran (wx : World) (T : Nat → Nat) (B : Nat) (g : G) (lg : List Lp) (ds : List Dp) : Prop where
  st : St wx T B g
  ps : ps g = runP lg ds ds.length
  lss : g.lss.n = lg.length
  desc : g.desc = lg
theorem Ran.below {wx wy : World} {T : Nat → Nat} {B : Nat} {g : G} {lg : List Lp} {ds : List Dp} (h : Ran wx T B g lg ds) (hb : Below wx.heap.size wx wy) : ∃ T', Ran wy T' B g lg ds := by
  obtain ⟨T', _, _, S'⟩ := h.st.below hb
  exact ⟨T', S', h.ps, h.lss, h.desc⟩

set_option maxRecDepth 100000 in
set_option maxHeartbeats 1000000 in
theorem law5_any (w : World) (s1 s2 : Sl) (lg : List Lp) (ds : List Dp) (hL : CellsAt w s1 3 (logsC lg)) (hD : DsAt w s2 ds) :
    Calls Try.prog 5 #[.slice s1.a s1.n s1.cap, .slice s2.a s2.n s2.cap] w fun e w' => e = .returned (.bool true) ∧ Below w.heap.size w w' := by
  have h15 := zzBytes15_any w s1 s2 lg ds hL hD
  have h16 : Calls Try.prog 16 #[.slice none 0 0, .slice s1.a s1.n s1.cap, .slice s2.a s2.n s2.cap, .int .i64 4096] w fun e w' => RetB e (Fits 4096 [] lg ds) ∧ Below w.heap.size w w' := retB_below <| scriptFits_any w ⟨none, 0, 0, 0, 0⟩ s1 s2 [] lg ds 4096 (by omega) (cells_nil _ _) hL hD
  go_enter Try.func5, Try.ntmps5
  go_upto_if 14 with (go_at_call 15; refine h15.mono ?_; rintro e w1 ⟨⟨v, rfl, -⟩, rfl⟩)
  clear h15
  cases v with
  | false =>
    go_wp2_with fail
    go_ret
    exact ⟨rfl, Below.refl _ _⟩
  | true =>
  go_upto_if 18 with (go_at_call 16; refine h16.mono ?_; rintro e w2 ⟨⟨v, rfl, hF⟩, hB2⟩)
  clear h16
  cases v with
  | false =>
    go_wp2_with fail
    go_ret
    exact ⟨rfl, hB2⟩
  | true =>
  have hF1 := hF rfl
  clear hF
  have hn1 : s1.n ≤ 4096 := by have := hF1.hlg; have := logs_len hL; omega
  have hn2 : s2.n ≤ 4096 := by have := hF1.hds; have := hD.len; omega
  have hD2 := hD.of_below hB2
  have hL2 := hL.of_below hB2
  have h17 := retB_below (logsInRange_any w2 s1 s2 ds (by omega) (by omega) hD2)
  go_upto_if 22 with (go_at_call 17; refine h17.mono ?_; rintro e w3 ⟨⟨v, rfl, hR⟩, hB3'⟩)
  clear h17
  have hB3 := below_next hB2 hB3'
  cases v with
  | false =>
    go_wp2_with fail
    go_ret
    exact ⟨rfl, hB3⟩
  | true =>
  have hR1 := hR rfl
  clear hR
  have hD3 := hD2.of_below hB3'
  have hL3 := hL2.of_below hB3'
  have hfit : ∀ d, d ∈ ds → d.to.length ≤ 1048576 ∧ d.keys.length ≤ 1048576 := fun d hd => ⟨(hF1.el d hd).2.1, (hF1.el d hd).2.2.1⟩
  have h18 := copyLogs_any w3 s1 lg (by omega) hL3
  clear hL hD hL2 hD2 hB3' hB2
  go_upto_region 8 with (go_at_call 18; refine h18.mono ?_; rintro e w4 ⟨c1, rfl, hc1n, hc1, hB4', -⟩; have hc1n' : Hid (c1.n = s1.n) := hc1n; clear hc1n)
  clear h18
  have hB4 := below_next hB3 hB4'
  have h19 := copyDeliveries_any w4 s2 ds (by omega) (hD3.of_below hB4') hfit
  clear hL3 hD3 hB3
  go_upto_region 9 with (go_at_call 19; refine h19.mono ?_; rintro e w5 ⟨c2, rfl, hc2n, hc2, hB5'⟩; have hc2n' : Hid (c2.n = s2.n) := hc2n; clear hc2n)
  clear h19
  have hB5 := below_next hB4 hB5'
  have hc1' := hc1.of_below hB5'
  clear hB4 hB4' hB5' hc1
  have h20 : Calls Try.prog 20 #[.bool false, .slice none 0 0, .slice c1.a c1.n c1.cap, .slice c2.a c2.n c2.cap] w5 fun e w' => RunPost w5 false ⟨none, 0, 0, 0, 0⟩ [] lg ds e w' := runScript_any w5 false ⟨none, 0, 0, 0, 0⟩ c1 c2 [] lg ds 4096 (by omega) hF1 (by rw [hc1n'.out]; exact hR1) (cells_nil _ _) hc1' hc2
  go_upto_region 10 with (go_at_call 20; refine h20.mono ?_; rintro e w6 ⟨T6, g, rfl, S6, G6, P6, -, hls, hdesc, hB6'⟩)
  clear h20
  have R6 : Ran w6 T6 w5.heap.size g lg ds := ⟨S6, P6, hls, hdesc⟩
  have hB6 := below_next hB5 hB6'
  have hc1b := hc1'.of_below hB6'
  have hc2b := hc2.of_below hB6'
  have hinv := inv_run lg ds (fun j d hd => (hR1 j d hd).1) ds.length (Nat.le_refl _)
  rw [← P6] at hinv
  have hbnd := runP_bnd lg ds ds.length (Nat.le_refl _)
  rw [← P6] at hbnd
  have hlg : Hid (lg.length = c1.n) := logs_len hc1'
  have hdl : Hid (ds.length = c2.n) := hc2.len
  have hdel : Hid (g.dels = c2.n) := by show g.dels = _; rw [← hdl.out]; exact hbnd.dels
  have h21 := deliveries_any w6 T6 _ g S6 g.R rfl
  rw [hdel.out] at h21
  have hc2m : c2.n ≤ 4096 := by have := hc2n'.out; omega
  have h22 := numbering_any w6 c2 ds (by omega) hc2b
  clear S6 G6 P6 hls hdesc hc1' hc2 hB6' hB5
  go_upto_region 12 with (go_at_call 21; refine h21.mono ?_; rintro e w7 ⟨rfl, rfl⟩)
  clear h21
  go_upto_region 13 with (go_at_call 22; refine h22.mono ?_; rintro e w8 ⟨sF, sN, rfl, hFn, hNn, hFc, hNc, hB8'⟩; have hFn' : Hid (sF.n = (firsts ds).length) := (by rw [idsOf_len] at hFn; exact hFn); clear hFn; have hNn' : Hid (sN.n = (idsOf ds).length) := hNn; clear hNn)
  clear h22
  obtain ⟨T8, R8⟩ := R6.below hB8'
  have hB8 := below_next hB6 hB8'
  have hc1d := hc1b.of_below hB8'
  have hc2d := hc2b.of_below hB8'
  have hml : g.msgs.length = sF.n := by
    rw [hFn'.out]
    have h1 := congrArg List.length hinv.msgs
    simpa [ps, firsts] using h1
  have hFc8 : CellsAt w8 sF 1 (intsC (firsts ds)) := by rw [idsOf_len] at hFc; exact hFc
  have hNc8 : CellsAt w8 sN 1 (intsC (nums ds)) := by rw [idsOf_len] at hNc; exact hNc
  have h23 := msgCount_any w8 T8 _ g R8.st g.R rfl
  rw [hml] at h23
  have hFm : sF.n ≤ 4096 := by
    rw [hFn'.out]
    have h1 := (numUp_len (idsOf ds) ds.length).2
    have := hdl.out
    show (numUp (idsOf ds) ds.length).1.length ≤ 4096
    omega
  have hml' : Hid (g.msgs.length = sF.n) := hml
  clear hml R6 hc1b hc2b hB6 hFc hNc hB8'
  go_upto_region 15 with (go_at_call 23; refine h23.mono ?_; rintro e w9 ⟨rfl, rfl⟩)
  clear h23
  go_wp2_with fail
  go_loopw [9] (fun i wr => ∃ m : Nat, m ≤ sF.n ∧ i = .int .i64 m ∧ Below w9.heap.size w9 wr) (fun i _ => sF.n - (intOf i).toNat)
  case atStart => exact ⟨0, Nat.zero_le _, rfl, Below.refl _ _⟩
  case round =>
    obtain ⟨m, hm, rfl, hBr⟩ := hrel
    by_cases hlt : m < sF.n
    · obtain ⟨wo, rfl⟩ : ∃ wo : World, wo = wr := ⟨_, rfl⟩
      obtain ⟨j, hj⟩ : ∃ j, (firsts ds)[m]? = some j := ⟨(firsts ds)[m]'(by rw [← hFn'.out]; exact hlt), List.getElem?_eq_getElem _⟩
      have hjl := firsts_lt hj
      have hjn : j < c2.n := by have := hdl.out; omega
      obtain ⟨d, t, kk, hd, hE⟩ := (hc2d.of_below hBr).get hjn
      obtain ⟨x, hx⟩ : ∃ x, g.msgs[m]? = some x := ⟨g.msgs[m]'(by rw [hml'.out]; exact hlt), List.getElem?_eq_getElem _⟩
      have hxid : x.id = d.id := by
        have h1 := hinv.msg hj
        have h2 : (ps g).msgs[m]? = some (absM x) := by simp [ps, hx]
        rw [h2, mpD_of hd] at h1
        exact congrArg Mp.id (Option.some.inj h1)
      have cF := (hFc8.of_below hBr).cell _ _ (ints_get hj)
      have c1' := hE.c1
      have aF := hFc8.at' (by omega)
      have a2 := hc2d.at' (by omega)
      have h24 : ∀ wx, Below wo.heap.size wo wx → Calls Try.prog 24 #[.pointer (some ⟨g.R, 0, none⟩), .int .i64 (m : Int)] wx fun e w' => e = .returned (.string d.id) ∧ w' = wx := fun wx hb => by
        obtain ⟨T', R'⟩ := R8.below (below_next hBr hb)
        rw [← hxid]
        exact msgId_any wx T' _ g R'.st g.R rfl m x hx
      have hmI : (m : Int) < (sF.n : Int) := by omega
      have hjI : (j : Int) < (c2.n : Int) := by omega
      have k1 : (d.id.toList == d.id.toList) = true := beq_self_eq_true _
      have hlt' : Hid (m < sF.n) := hlt
      have hdr : Below wo.heap.size wo wo.drew := (Below.refl _ wo).drew
      clear R8 hc1d hc2d hE hj hd hx hxid hFc8 hNc8 hinv hbnd hF1 hR1 hfit hlt
      go_upto_region 18 with fail
      go_region_held3 (fun w' => w'.cell? ⟨sF.b, sF.off + m, none⟩ = some (.int .i64 (j : Int)) ∧ w'.cell? ⟨c2.b, c2.off + j * 5 + 1, none⟩ = some (.string d.id)) (go_keep)
        ((go_at_call 24; refine (h24 _ (by exact hdr)).mono ?_; rintro e w10 ⟨rfl, rfl⟩))
      all_goals go_wp2_with fail
      (try rw [← aF]); (try rw [← a2])
      go_roundw
      case rel => exact ⟨m + 1, hlt'.out, by go_num, below_next hBr hdr⟩
      case measure => have := hlt'.out; simp [intOf]; omega
    · obtain rfl : m = sF.n := by omega
      obtain ⟨Tr, Rr⟩ := R8.below hBr
      have hBA := below_next hB8 hBr
      have hc1e := hc1d.of_below hBr
      have hc2e := hc2d.of_below hBr
      have hNe := hNc8.of_below hBr
      have h25 := dupFlags_any wr c2 ds (by omega) hc2e
      clear R8 hc1d hc2d hFc8 hNc8 hB8
      go_upto_region 21 with (go_at_call 25; refine h25.mono ?_; rintro e w11 ⟨sU, rfl, hUn, hUc, hB11⟩; have hUn' : Hid (sU.n = ds.length) := hUn; clear hUn)
      clear h25
      obtain ⟨T11, R11⟩ := Rr.below hB11
      obtain ⟨sV, hvV, hVi⟩ := R11.st.viosAt
      have hBB := below_next hBA hB11
      have hc1f := hc1e.of_below hB11
      have hc2f := hc2e.of_below hB11
      have hNf := hNe.of_below hB11
      have h27 := violations_any w11 T11 _ g R11.st g.R rfl
      rw [hvV] at h27
      have hvm : g.vios.map absV = (modelUp lg ds (dupL ds) ds.length).map vpOf := hinv.vios
      obtain ⟨hvl, hvz⟩ := vios_match hvm
      have hul : (dupL ds).length = ds.length := by simp [dupL]
      have hdl4 : ds.length ≤ 4096 := by have := hdl.out; omega
      have h28 := deliverModel_any w11 c1 c2 sU lg ds (dupL ds) hc1f hc2f hUc (by rw [hc1n'.out]; exact hR1) hul hdl4 hfit
      have hmlen := modelUp_len lg ds (dupL ds) ds.length
      have h26 : ∀ (wx : World) (sw : Sl), Below w11.heap.size w11 wx → CellsAt wx sw 5 ((modelUp lg ds (dupL ds) ds.length).flatMap zvC) → Calls Try.prog 26 #[.slice sV.a sV.n sV.cap, .int .i64 0, .slice sw.a sw.n sw.cap] wx fun e w' => e = .returned (.bool true) ∧ Below wx.heap.size wx w' := fun wx sw hb hz =>
        violListMatches_any wx sV sw 0 g.vios _ (hVi.of_below hb) hz (by omega) (by omega) (fun i z hz => by rw [Nat.zero_add]; exact hvz i z hz)
      clear Rr hc1e hc2e hNe hBA hvm hvz hVi hc1f hmlen
      go_upto_region 23 with (first | (go_at_call 27; refine h27.mono ?_; rintro e w12 ⟨rfl, rfl⟩) | (go_at_call 28; refine h28.mono ?_; rintro e w13 ⟨sw, rfl, hsw, hB13⟩) | (go_at_call 26; refine (h26 _ sw hB13 hsw).mono ?_; rintro e w14 ⟨rfl, hB14⟩))
      clear h26 h27 h28
      have hBC := below_next hB13 hB14
      obtain ⟨T14, R14⟩ := R11.below hBC
      have h29 := ordersMatch_any w14 T14 _ g R14.st c2 sN sU ds (nums ds) (dupL ds) sF.n (hc2f.of_below hBC) (hNf.of_below hBC) (hUc.of_below hBC) (nums_len ds) hul hdl4 hFm (by rw [R14.desc]; exact hF1.hlg) (by rw [R14.desc]; exact R14.lss)
        (fun k => Nat.le_trans (hbnd.pl k) hdl4) (fun k x hx => Nat.le_trans (hbnd.plx k x hx) hdl4) (fun x hx => Nat.le_trans (nums_le hx) hdl4)
        (fun k _ => hinv.ord k) (fun k p m _ hp => (hinv.pl k m p).2 hp) (fun k _ => by rw [hFn'.out]; exact hinv.count k)
      rw [R14.lss] at h29
      have hBD := below_next hBB hBC
      clear R11 R14 hc2f hNf hUc hinv hbnd hF1 hR1 hfit
      go_wp2_with (go_at_call 29; refine h29.mono ?_; rintro e w15 ⟨rfl, hB15⟩)
      go_ret
      exact ⟨rfl, below_next hBD hB15⟩

end Go.Proofs.Qxb6601949a.Sc
