/- THE SCRIPT LAWS: the walk of the law on checkMissing. -/
import Derived.Test.Qxb6601949aScMiss
import Derived.Test.Qxb6601949aScMissP
import Derived.Test.Qxb6601949aScSnap
import Derived.Test.Qxb6601949aScLaw5
namespace Go.Proofs.Qxb6601949a.Sc
open Go.RowKit Go.Maps
set_option linter.unusedVariables false
set_option linter.unusedSimpArgs false

set_option maxHeartbeats 1000000 in
theorem zzCheckMissing_any (w : World) (T : Nat → Nat) (B : Nat) (g : G) (S : St w T B g) (R : Nat) (hR : g.R = R) (hdl : g.desc.length ≤ 256) (hll : g.lss.n = g.desc.length) (hcl : g.cr.length ≤ 4096) (hml : g.msgs.length ≤ 4096) (hvl : g.vios.length ≤ 8192)
    (hgs : ∀ l, l ∈ g.desc → l.grp.size ≤ 1048576) (hto : ∀ m, m ∈ g.msgs → m.to.length ≤ 1048576 ∧ ∀ x, x ∈ m.to → x.size ≤ 1048576) (hpl : ∀ k, (g.pl k).length ≤ 4096) (hpx : ∀ k x, x ∈ g.pl k → x ≤ 4096) :
    Calls Try.prog 34 #[.pointer (some ⟨R, 0, none⟩)] w fun e w' => MissPost w T B g e w' := by
  have hc := checkMissing_any w T B g S R hR hdl hll hcl hml hvl hgs hto hpl hpx
  clear S hgs hto hpl hpx
  go_enter Try.func34, Try.ntmps34
  go_wp2_with (go_at_call 50; refine hc.mono ?_; rintro e w1 ⟨rfl, hp⟩)
  go_end0
  exact ⟨rfl, hp⟩

theorem small_v {v : Vio} {z : Zv} (h : absV v = vpOf z) : v.ids.length ≤ 2 ∧ v.reps.length ≤ 2 := by
  obtain ⟨kind, is, ids, rs, reps⟩ := v
  obtain ⟨zk, zi, r1, r2, two⟩ := z
  simp only [absV, vpOf, Vp.mk.injEq] at h
  obtain ⟨_, rfl, rfl⟩ := h
  refine ⟨by simp, ?_⟩
  cases two <;> simp

/-- What the law reads behind checkMissing. -/
structure Missed (wx : World) (sG sP : Sl) (a vp : List Vio) (c0 c1 c2 : Sl) (cr : List ByteArray) (lg : List Lp) (ds : List Dp) : Prop where
  got : ViosAt wx sG a
  pre : ViosAt wx sP vp
  crs : CellsAt wx c0 1 (strsC cr)
  lgs : CellsAt wx c1 3 (logsC lg)
  dls : DsAt wx c2 ds
theorem Missed.below {wx wy : World} {sG sP : Sl} {a vp : List Vio} {c0 c1 c2 : Sl} {cr : List ByteArray} {lg : List Lp} {ds : List Dp} (h : Missed wx sG sP a vp c0 c1 c2 cr lg ds) (hb : Below wx.heap.size wx wy) : Missed wy sG sP a vp c0 c1 c2 cr lg ds :=
  ⟨h.got.of_below hb, h.pre.of_below hb, h.crs.of_below hb, h.lgs.of_below hb, h.dls.of_below hb⟩

theorem ViosAt.keep0 {w w' : World} {T T' : Nat → Nat} {s : Sl} {vs : List Vio} (h : ViosAt w s vs) (k : Keep0 T T' w w') (hs : 0 < s.n → T s.b = 0) (hv : ∀ v, v ∈ vs → (0 < v.is.n → T v.is.b = 0) ∧ (0 < v.rs.n → T v.rs.b = 0)) : ViosAt w' s vs :=
  ⟨(Imm.keep0 ⟨h.cells, hs⟩ (by omega) k).cells, fun v hm => ⟨(Imm.keep0 ⟨(h.el v hm).1, (hv v hm).1⟩ (by omega) k).cells, (Imm.keep0 ⟨(h.el v hm).2, (hv v hm).2⟩ (by omega) k).cells⟩⟩

def dlRow (ds : List Dp) (nm i : Nat) : Nat → Value := fun p => .bool (delvAt ds (p / nm) (p % nm) i)
theorem delvAt_succ (ds : List Dp) (k m i : Nat) : delvAt ds k m (i + 1) = (delvAt ds k m i || (decide ((ds[i]?).map (·.log) = some (k : Int)) && decide ((nums ds)[i]? = some m))) := by
  unfold delvAt
  rw [List.range_succ, List.any_append]
  simp
theorem dlRow_step {ds : List Dp} {nm i q x Q : Nat} {d : Dp} (hd : ds[i]? = some d) (hq : d.log = (q : Int)) (hx : (nums ds)[i]? = some x) (hxn : x < nm) (hQ : Q = q * nm + x) (p : Nat) : (if p = Q then Value.bool true else dlRow ds nm i p) = dlRow ds nm (i + 1) p := by
  have hn0 : 0 < nm := by omega
  unfold dlRow
  rw [delvAt_succ, hd, hx]
  by_cases e : p = Q
  · rw [if_pos e, e, hQ]
    have h1 : (q * nm + x) / nm = q := by rw [Nat.mul_comm, Nat.mul_add_div hn0, Nat.div_eq_of_lt hxn, Nat.add_zero]
    have h2 : (q * nm + x) % nm = x := by rw [Nat.mul_comm, Nat.mul_add_mod, Nat.mod_eq_of_lt hxn]
    rw [h1, h2]
    simp [hq]
  · rw [if_neg e]
    have hno : ¬ (q = p / nm ∧ x = p % nm) := fun h => e (by rw [hQ, h.1, h.2, Nat.mul_comm]; exact (Nat.div_add_mod p nm).symm)
    have : (decide ((some d).map (·.log) = some ((p / nm : Nat) : Int)) && decide (some x = some (p % nm))) = false := by
      rw [Bool.and_eq_false_iff]
      by_cases h1 : q = p / nm
      · right; exact decide_eq_false (fun h => hno ⟨h1, Option.some.inj h⟩)
      · left; exact decide_eq_false (fun h => h1 (by have := Option.some.inj h; simp only [hq] at this; omega))
    rw [this, Bool.or_false]
def alRow (lg : List Lp) (cr : List ByteArray) (i : Nat) : Nat → Value := fun p => .bool (decide (p < i) && aliveAt lg cr p)

set_option maxRecDepth 100000 in
set_option maxHeartbeats 1000000 in
theorem law6_any (w : World) (cmp : Bool) (s0 s1 s2 : Sl) (cr : List ByteArray) (lg : List Lp) (ds : List Dp) (hC : CellsAt w s0 1 (strsC cr)) (hL : CellsAt w s1 3 (logsC lg)) (hD : DsAt w s2 ds) :
    Calls Try.prog 6 #[.bool cmp, .slice s0.a s0.n s0.cap, .slice s1.a s1.n s1.cap, .slice s2.a s2.n s2.cap] w fun e w' => e = .returned (.bool true) ∧ Below w.heap.size w w' := by
  have h30 := zzBytes30_any w cmp s0 s1 s2 cr lg ds hC hL hD
  have h16 : Calls Try.prog 16 #[.slice s0.a s0.n s0.cap, .slice s1.a s1.n s1.cap, .slice s2.a s2.n s2.cap, .int .i64 256] w fun e w' => RetB e (Fits 256 cr lg ds) ∧ Below w.heap.size w w' := retB_below <| scriptFits_any w s0 s1 s2 cr lg ds 256 (by omega) hC hL hD
  go_enter Try.func6, Try.ntmps6
  go_upto_if 31 with (go_at_call 30; refine h30.mono ?_; rintro e w1 ⟨⟨v, rfl, -⟩, rfl⟩)
  clear h30
  cases v with
  | false =>
    go_wp2_with fail
    go_ret
    exact ⟨rfl, Below.refl _ _⟩
  | true =>
  go_upto_if 36 with (go_at_call 16; refine h16.mono ?_; rintro e w2 ⟨⟨v, rfl, hF⟩, hB2⟩)
  clear h16
  cases v with
  | false =>
    go_wp2_with fail
    go_ret
    exact ⟨rfl, hB2⟩
  | true =>
  have hF1 := hF rfl
  clear hF
  have hn0 : s0.n ≤ 4096 := by have := hF1.hcr; have := strs_len hC; omega
  have hn1 : s1.n ≤ 256 := by have := hF1.hlg; have := logs_len hL; omega
  have hn2 : s2.n ≤ 4096 := by have := hF1.hds; have := hD.len; omega
  have hC2 := hC.of_below hB2
  have hD2 := hD.of_below hB2
  have hL2 := hL.of_below hB2
  have h31 := reportsFit_any w2 s1 s2 ds (by omega) hD2
  go_upto_if 40 with (go_at_call 31; refine h31.mono ?_; rintro e w2' ⟨⟨v, rfl, -⟩, rfl⟩)
  clear h31
  cases v with
  | false =>
    go_wp2_with fail
    go_ret
    exact ⟨rfl, hB2⟩
  | true =>
  have h17 := retB_below (logsInRange_any _ s1 s2 ds (by omega) (by omega) hD2)
  go_upto_if 44 with (go_at_call 17; refine h17.mono ?_; rintro e w3 ⟨⟨v, rfl, hR⟩, hB3'⟩)
  clear h17
  have hB3 := below_next hB2 hB3'
  cases v with
  | false =>
    go_wp2_with fail
    go_ret
    exact ⟨rfl, hB3⟩
  | true =>
  have hR1 := hR rfl
  clear hR
  have hfit : ∀ d, d ∈ ds → d.to.length ≤ 1048576 ∧ d.keys.length ≤ 1048576 := fun d hd => ⟨(hF1.el d hd).2.1, (hF1.el d hd).2.2.1⟩
  have hC3 := hC2.of_below hB3'
  have hD3 := hD2.of_below hB3'
  have hL3 := hL2.of_below hB3'
  have h32 := copyStrs_any w3 s0 cr (by omega) hC3
  clear hC hL hD hC2 hL2 hD2 hB3' hB2 hC3
  go_upto_region 10 with (go_at_call 32; refine h32.mono ?_; rintro e w4 ⟨c0, rfl, hc0n, hc0, hB4', -⟩; have hc0n' : Hid (c0.n = s0.n) := hc0n; clear hc0n)
  clear h32
  have hB4 := below_next hB3 hB4'
  have hD4 := hD3.of_below hB4'
  have h18 := copyLogs_any w4 s1 lg (by omega) (hL3.of_below hB4')
  clear hD3 hL3 hB4' hB3
  go_upto_region 11 with (go_at_call 18; refine h18.mono ?_; rintro e w5 ⟨c1, rfl, hc1n, hc1, hB5', -⟩; have hc1n' : Hid (c1.n = s1.n) := hc1n; clear hc1n)
  clear h18
  have hB5 := below_next hB4 hB5'
  have hc05 := hc0.of_below hB5'
  have h19 := copyDeliveries_any w5 s2 ds (by omega) (hD4.of_below hB5') hfit
  clear hD4 hB4 hB5' hc0
  go_upto_region 12 with (go_at_call 19; refine h19.mono ?_; rintro e w6 ⟨c2, rfl, hc2n, hc2, hB6'⟩; have hc2n' : Hid (c2.n = s2.n) := hc2n; clear hc2n)
  clear h19
  have hB6 := below_next hB5 hB6'
  have hc06 := hc05.of_below hB6'
  have hc16 := hc1.of_below hB6'
  clear hc05 hc1 hB5 hB6'
  have h20 := runScript_any w6 cmp c0 c1 c2 cr lg ds 256 (by omega) hF1 (by rw [hc1n'.out]; exact hR1) hc06 hc16 hc2
  go_upto_region 13 with (go_at_call 20; refine h20.mono ?_; rintro e w7 ⟨T7, g, rfl, S7, G7, P7, hgcr, hls, hdesc, hB7'⟩; have hls' : Hid (g.lss.n = lg.length) := hls; clear hls; have hgcr' : Hid (g.cr = cr) := hgcr; clear hgcr; have hdesc' : Hid (g.desc = lg) := hdesc; clear hdesc)
  clear h20
  have hinv := inv_run lg ds (fun j d hd => (hR1 j d hd).1) ds.length (Nat.le_refl _)
  rw [← P7] at hinv
  have hbnd := runP_bnd lg ds ds.length (Nat.le_refl _)
  rw [← P7] at hbnd
  have hdl4 : ds.length ≤ 4096 := hF1.hds
  have hvl : g.vios.length ≤ 8192 := by have := hbnd.vios; simp [ps] at this; omega
  have hml : g.msgs.length ≤ 4096 := by have := hbnd.msgs; simp [ps] at this; omega
  have hvm : g.vios.map absV = (modelUp lg ds (dupL ds) ds.length).map vpOf := hinv.vios
  have hsm : ∀ v, v ∈ g.vios → v.ids.length ≤ 2 ∧ v.reps.length ≤ 2 := fun v hv => by
    have h1 : absV v ∈ (modelUp lg ds (dupL ds) ds.length).map vpOf := by rw [← hvm]; exact List.mem_map_of_mem hv
    obtain ⟨z, _, hz⟩ := List.mem_map.1 h1
    exact small_v hz.symm
  obtain ⟨sV, hvV, hVi⟩ := S7.viosAt
  have h27 := violations_any w7 T7 _ g S7 g.R rfl
  rw [hvV] at h27
  have h33 := snapshotViols_any w7 sV g.vios (by have := hVi.len; omega) hVi (fun v hv => by have := hsm v hv; omega)
  have hmsgs : ∀ m, m ∈ g.msgs → m.to.length ≤ 1048576 ∧ ∀ x, x ∈ m.to → x.size ≤ 1048576 := fun m hm => by
    have h1 : absM m ∈ (ps g).msgs := List.mem_map_of_mem hm
    rw [hinv.msgs] at h1
    obtain ⟨j, hj, he⟩ := List.mem_map.1 h1
    have hjl := numUp_lt _ _ _ hj
    have hd : ds[j]? = some ds[j] := List.getElem?_eq_getElem hjl
    rw [mpD_of hd] at he
    have h2 := hF1.el _ (List.mem_of_getElem? hd)
    have h3 : m.to = (ds[j]).to := (congrArg Mp.to he).symm
    rw [h3]
    exact ⟨h2.2.1, h2.2.2.2⟩
  go_upto_region 14 with (first | (go_at_call 27; refine h27.mono ?_; rintro e w8 ⟨rfl, rfl⟩) | (go_at_call 33; refine h33.mono ?_; rintro e w9 ⟨sP, vp, rfl, hsPn, hvp, hVp, hPb, hPv, hB9'⟩; have hsPn' : Hid (sP.n = sV.n) := hsPn; clear hsPn))
  clear h27 h33
  obtain ⟨T9, K9, hT9, S9⟩ := S7.below hB9'
  have h34 := zzCheckMissing_any w9 T9 _ g S9 g.R rfl (by rw [hdesc'.out]; exact hF1.hlg) (by rw [hls'.out, hdesc'.out]) (by rw [hgcr'.out]; exact hF1.hcr) hml hvl (by rw [hdesc'.out]; exact hF1.grp) hmsgs (fun k => Nat.le_trans (hbnd.pl k) hdl4) (fun k x hx => Nat.le_trans (hbnd.plx k x hx) hdl4)
  go_upto_region 15 with (go_at_call 34; refine h34.mono ?_; rintro e w10 ⟨rfl, T10, a, v, K10, S10, hall⟩)
  clear h34
  have hBall : Below w6.heap.size w6 w10 := (hB7'.trans (hB9'.mono hB7'.size)).trans (K10.below S9.base S9.hB)
  have hB10 := below_next hB6 hBall
  obtain ⟨sG, hvG, hGi⟩ := S10.viosAt
  have hPre : ViosAt w10 sP vp := hVp.keep0 K10 (fun h => by rw [hT9, if_neg (by have := hPb h; omega)]) (fun z hz => ⟨fun h => by rw [hT9, if_neg (by have := (hPv z hz).1 h; omega)], fun h => by rw [hT9, if_neg (by have := (hPv z hz).2 h; omega)]⟩)
  have hMd : Missed w10 sG sP a vp c0 c1 c2 cr lg ds := ⟨hGi, hPre, hc06.of_below hBall, hc16.of_below hBall, hc2.of_below hBall⟩
  have hnf : g.msgs.length = (firsts ds).length := by
    have h1 := congrArg List.length hinv.msgs
    simpa [ps, firsts] using h1
  have hall2 : a.map absV = g.vios.map absV ++ (wUp lg cr ds (firsts ds).length).map vpOf := by
    rw [hall, wUp_eq hinv, hdesc'.out, hgcr'.out, hnf]
    rfl
  have hvG' : v = .slice sG.a sG.n sG.cap := hvG
  subst hvG'
  have h27b := violations_any w10 T10 _ _ S10 g.R rfl
  have hal : a.length = g.vios.length + (wUp lg cr ds (firsts ds).length).length := by have := congrArg List.length hall2; simpa using this
  have hvpl : vp.length = g.vios.length := by have := congrArg List.length hvp; simpa using this
  have hfn4 : (firsts ds).length ≤ 4096 := by have := (numUp_len (idsOf ds) ds.length).2; show (numUp (idsOf ds) ds.length).1.length ≤ 4096; omega
  have hwul := wUp_len lg cr ds (fun d hd => (hfit d hd).1) hF1.hlg (firsts ds).length
  have h35 := prefixKept_any w10 sG sP a vp hGi hPre (by omega) (by omega) (fun i z hz => by
    have hi := get_lt hz
    obtain ⟨y, hy⟩ : ∃ y, a[i]? = some y := ⟨_, List.getElem?_eq_getElem (by omega)⟩
    have e1 := congrArg (fun l => l[i]?) hall2
    have e2 := congrArg (fun l => l[i]?) hvp
    simp only [List.getElem?_map, hz, hy, Option.map_some] at e1 e2
    rw [List.getElem?_append_left (by simp; omega), List.getElem?_map] at e1
    rw [← e2] at e1
    have e3 : absV y = absV z := Option.some.inj e1
    obtain ⟨u, hu⟩ : ∃ u, g.vios[i]? = some u := ⟨_, List.getElem?_eq_getElem (by omega)⟩
    rw [hu, Option.map_some] at e2
    have e4 : absV z = absV u := Option.some.inj e2
    have e5 := hsm u (List.mem_of_getElem? hu)
    have e6 : y.ids = u.ids := congrArg Vp.ids (e3.trans e4)
    have e7 : y.reps = u.reps := congrArg Vp.reps (e3.trans e4)
    obtain ⟨f1, f2⟩ := hGi.el y (List.mem_of_getElem? hy)
    have g1 := strs_len f1
    have g2 := strs_len f2
    rw [e6] at g1
    rw [e7] at g2
    exact ⟨y, hy, e3, by omega, by omega⟩)
  have hzall : ∀ (i : Nat) (z : Zv), (wUp lg cr ds (firsts ds).length)[i]? = some z → ∃ y, a[vp.length + i]? = some y ∧ absV y = vpOf z := fun i z hz => by
    have hi := get_lt hz
    obtain ⟨y, hy⟩ : ∃ y, a[vp.length + i]? = some y := ⟨_, List.getElem?_eq_getElem (by omega)⟩
    have e1 := congrArg (fun l => l[vp.length + i]?) hall2
    simp only [List.getElem?_map, hy, Option.map_some] at e1
    rw [List.getElem?_append_right (by simp; omega), List.length_map, hvpl, Nat.add_sub_cancel_left, List.getElem?_map, hz] at e1
    exact ⟨y, hy, Option.some.inj e1⟩
  have halen : Hid (a.length = vp.length + (wUp lg cr ds (firsts ds).length).length ∧ a.length ≤ 4398046511104) := ⟨by omega, by omega⟩
  have hzall' : Hid (∀ (i : Nat) (z : Zv), (wUp lg cr ds (firsts ds).length)[i]? = some z → ∃ y, a[vp.length + i]? = some y ∧ absV y = vpOf z) := hzall
  have hinv' : Hid (Inv lg ds ds.length (ps g)) := hinv
  clear S7 G7 P7 S9 K9 hT9 S10 K10 hall hall2 hvp hVp hPb hPv hVi hvV hvm hsm hB7' hB9' hB6 hBall hc06 hc16 hc2 hGi hPre hinv hbnd hvl hml hmsgs hal hvpl hzall hnf hvG
  go_upto_region 16 with (go_at_call 27; refine h27b.mono ?_; rintro e w11 ⟨rfl, rfl⟩)
  clear h27b
  go_upto_region 18 with (go_at_call 35; refine h35.mono ?_; rintro e w12 ⟨rfl, hB12'⟩)
  clear h35
  have hMd2 := hMd.below hB12'
  have hB12 := below_next hB10 hB12'
  clear hMd hB10 hB12'
  have hc2b : c2.n ≤ 4096 := by have := hc2n'.out; omega
  have h22 := numbering_any w12 c2 ds hc2b hMd2.dls
  go_upto_region 20 with (go_at_call 22; refine h22.mono ?_; rintro e w13 ⟨sF, sN, rfl, hFn, hNn, hFc, hNc, hB13'⟩; have hFn' : Hid (sF.n = (firsts ds).length) := (by rw [idsOf_len] at hFn; exact hFn); clear hFn; have hNn' : Hid (sN.n = (idsOf ds).length) := hNn; clear hNn)
  clear h22
  have hMd3 := hMd2.below hB13'
  have hB13 := below_next hB12 hB13'
  have hFc3 : CellsAt w13 sF 1 (intsC (firsts ds)) := by rw [idsOf_len] at hFc; exact hFc
  have hNc3 : CellsAt w13 sN 1 (intsC (nums ds)) := by rw [idsOf_len] at hNc; exact hNc
  clear hMd2 hB12 hB13' hFc hNc
  have hlgn : Hid (lg.length = c1.n) := logs_len hMd3.lgs
  have hdln : Hid (ds.length = c2.n) := hMd3.dls.len
  have hc1b : c1.n ≤ 256 := by have := hc1n'.out; omega
  have hc0b : c0.n ≤ 4096 := by have := hc0n'.out; omega
  have hsFb : sF.n ≤ 4096 := by have := hFn'.out; omega
  have hnnn : Hid (sN.n = c2.n) := by show sN.n = c2.n; have := hNn'.out; have := hdln.out; rw [idsOf_len] at *; omega
  obtain ⟨N, hN⟩ : ∃ N, N = c1.n * sF.n := ⟨_, rfl⟩
  have hNb : N ≤ 1048576 := by rw [hN]; exact Nat.le_trans (Nat.mul_le_mul hc1b hsFb) (by omega)
  have hmulN : (c1.n : Int) * (sF.n : Int) = (N : Int) := by rw [hN]; exact (Int.natCast_mul _ _).symm
  have hwN : IntKind.i64.wrap (N : Int) = (N : Int) := wrap_small N (by omega)
  have hN' : Hid (N = c1.n * sF.n) := hN
  have hmk := run_make_row' (P := Try.prog) 47 4 (.bool false) 1 Try.underlying47 info4 rfl .i64 .i64 N (by omega) (by omega)
  have H0 := World.rowIs_made w13 (.bool false) N 4
  have B0 : Below w13.heap.size w13 (w13.alloc (.cells (madeCells #[.bool false] N) 4)) := (Below.refl _ w13).alloc (Nat.le_refl _) _
  clear hN
  go_wp2_with fail
  clear hmk hmulN hwN
  go_loopw [17] (fun i wr => ∃ k : Nat, k ≤ c2.n ∧ i = .int .i64 k ∧ wr.rowIs w13.heap.size 4 N (dlRow ds sF.n k) ∧ Below w13.heap.size w13 wr) (fun i _ => c2.n - (intOf i).toNat)
  case atStart => exact ⟨0, Nat.zero_le _, rfl, H0.congr (fun i _ => by simp [dlRow, delvAt]), B0⟩
  case round =>
    obtain ⟨k, hk, rfl, hrow, hBr⟩ := hrel
    clear H0 B0
    by_cases hlt : k < c2.n
    · obtain ⟨wo, rfl⟩ : ∃ wo : World, wo = wr := ⟨_, rfl⟩
      obtain ⟨d, t, kk, hd, hE0⟩ := hMd3.dls.get hlt
      have hE := hE0.of_below (w' := wo) hBr
      obtain ⟨q, hq⟩ : ∃ q : Nat, d.log = (q : Int) := ⟨d.log.toNat, by have := hR1 k d hd; omega⟩
      have hqn : q < c1.n := by have := hR1 k d hd; have := hc1n'.out; omega
      have hnl : k < (nums ds).length := by rw [nums_len]; have := hdln.out; omega
      obtain ⟨x, hx⟩ : ∃ x, (nums ds)[k]? = some x := ⟨_, List.getElem?_eq_getElem hnl⟩
      have hxF : x < sF.n := by rw [hFn'.out]; exact get_lt (hinv'.out.fst k x (by have := hdln.out; omega) hx)
      have c0' := hE.c0
      rw [hq] at c0'
      have cN := (hNc3.of_below hBr).cell _ _ (ints_get hx)
      obtain ⟨P, hP⟩ : ∃ P, P = q * sF.n := ⟨_, rfl⟩
      obtain ⟨Q, hQ⟩ : ∃ Q, Q = P + x := ⟨_, rfl⟩
      have hQN : Q < N := by
        rw [hQ, hP, hN'.out]
        have h1 : (q + 1) * sF.n ≤ c1.n * sF.n := Nat.mul_le_mul_right _ hqn
        rw [Nat.succ_mul] at h1
        omega
      have hm1 : (q : Int) * (sF.n : Int) = (P : Int) := by rw [hP]; exact (Int.natCast_mul _ _).symm
      have hw1 : IntKind.i64.wrap (P : Int) = (P : Int) := wrap_small P (by omega)
      have hs1' : (P : Int) + (x : Int) = (Q : Int) := by omega
      have hw2 : IntKind.i64.wrap (Q : Int) = (Q : Int) := wrap_small Q (by omega)
      have hQI : (Q : Int) < (N : Int) := by omega
      have hQ0 : (0 : Int) ≤ (Q : Int) := by omega
      have hst : Hid (∀ p, (if p = Q then Value.bool true else dlRow ds sF.n k p) = dlRow ds sF.n (k + 1) p) := dlRow_step hd hq hx hxF (by rw [hQ, hP])
      have r1 := hrow.cell hQN
      have r2 := hrow.frozen Q
      have hb1 : c2.b < w13.heap.size := World.block_lt_of_cell? _ _ hE0.c0
      have hb2 : sN.b < w13.heap.size := World.block_lt_of_cell? _ _ (hNc3.cell _ _ (ints_get hx))
      have n1 : w13.heap.size ≠ c2.b := by omega
      have n2 : c2.b ≠ w13.heap.size := by omega
      have n3 : w13.heap.size ≠ sN.b := by omega
      have n4 : sN.b ≠ w13.heap.size := by omega
      have a2 := hMd3.dls.at' (by omega)
      have aN := hNc3.at' (by have := hnnn.out; omega)
      have hkI : (k : Int) < (c2.n : Int) := by omega
      have hkN : (k : Int) < (sN.n : Int) := by have := hnnn.out; omega
      have hlt' : Hid (k < c2.n) := hlt
      clear hMd3 hE hE0 hd hq hx hFc3 hNc3 hP hQ hF1 hR1 hfit
      go_upto_region 24 with fail
      go_region_held3 (fun w' => w'.cell? ⟨c2.b, c2.off + k * 5, none⟩ = some (.int .i64 (q : Int)) ∧ w'.cell? ⟨sN.b, sN.off + k, none⟩ = some (.int .i64 (x : Int))) (go_keep) (fail)
      all_goals go_wp2_with fail
      (try rw [← a2]); (try rw [← aN])
      go_roundw
      case rel => exact ⟨k + 1, hlt'.out, by clear hm1 hw1 hs1' hw2; go_num, (hrow.set Q (.bool true)).congr (fun p _ => hst.out p), (hBr.setCell (Nat.le_refl _) _).drew⟩
      case measure => have := hlt'.out; clear hm1 hw1 hs1' hw2; simp [intOf]; omega
    · obtain rfl : k = c2.n := by omega
      obtain ⟨w14, rfl⟩ : ∃ w14 : World, w14 = wr := ⟨_, rfl⟩
      have hMd4 := hMd3.below hBr
      have hB14 := below_next hB13 hBr
      have hFc4 := hFc3.of_below hBr
      obtain ⟨DW, hDW⟩ : ∃ DW, DW = w13.heap.size := ⟨_, rfl⟩
      rw [← hDW] at hrow ⊢
      have hDl : DW < w14.heap.size := by obtain ⟨c, hc, _⟩ := hrow; exact (Array.getElem?_eq_some_iff.1 hc).1
      have hmk2 := run_make_row' (P := Try.prog) 47 4 (.bool false) 1 Try.underlying47 info4 rfl .i64 .i64 c1.n (by omega) (by omega)
      have H1 := World.rowIs_made w14 (.bool false) c1.n 4
      have B1 : Below w14.heap.size w14 (w14.alloc (.cells (madeCells #[.bool false] c1.n) 4)) := (Below.refl _ w14).alloc (Nat.le_refl _) _
      clear hMd3 hB13 hFc3 hNc3 hBr hDW
      go_wp2_with fail
      clear hmk2
      go_loopw [19] (fun i wr => ∃ k : Nat, k ≤ c1.n ∧ i = .int .i64 k ∧ wr.rowIs w14.heap.size 4 c1.n (alRow lg cr k) ∧ Below w14.heap.size w14 wr) (fun i _ => c1.n - (intOf i).toNat)
      case atStart => exact ⟨0, Nat.zero_le _, rfl, H1.congr (fun i _ => by simp [alRow]), B1⟩
      case round =>
        obtain ⟨k, hk, rfl, hrow2, hBr⟩ := hrel
        clear H1 B1
        by_cases hlt : k < c1.n
        · obtain ⟨dq, hdq⟩ : ∃ dq, lg[k]? = some dq := ⟨lg[k]'(by rw [hlgn.out]; exact hlt), List.getElem?_eq_getElem _⟩
          obtain ⟨_, l1, -⟩ := log_cells (hMd4.lgs.of_below hBr) hdq
          have hrep : repOf lg k = dq.rep := by simp [repOf, hdq]
          have h36 := containsStr_any wr c0 cr dq.rep (by omega) (hMd4.crs.of_below hBr)
          have r1 := hrow2.cell hlt
          have r2 := hrow2.frozen k
          have a1 := hMd4.lgs.at' (by omega)
          have hkI : (k : Int) < (c1.n : Int) := by omega
          have hlt' : Hid (k < c1.n) := hlt
          have hal : Hid (aliveAt lg cr k = !memB dq.rep cr) := by show _ = _; unfold aliveAt; rw [hrep]
          clear hMd4 hdq hrep hFc4 hF1 hR1 hfit
          generalize memB dq.rep cr = mem at *
          go_wp2_with (go_at_call 36; refine h36.mono ?_; rintro e w2 ⟨rfl, rfl⟩)
          (try rw [← a1])
          go_roundw
          case rel => exact ⟨k + 1, hlt'.out, by go_num, (hrow2.set k (.bool (!mem))).congr (fun p _ => by
            unfold alRow
            by_cases e : p = k
            · subst e; rw [if_pos rfl, hal.out]; simp
            · rw [if_neg e]
              have : decide (p < k) = decide (p < k + 1) := by simp only [decide_eq_decide]; omega
              rw [this]), hBr.setCell (Nat.le_refl _) _⟩
          case measure => have := hlt'.out; simp [intOf]; omega
        · obtain rfl : k = c1.n := by omega
          obtain ⟨w15, rfl⟩ : ∃ w15 : World, w15 = wr := ⟨_, rfl⟩
          have hMd5 := hMd4.below hBr
          have hB15 := below_next hB14 hBr
          have hFc5 := hFc4.of_below hBr
          have hrow1 : w15.rowIs DW 4 N (dlRow ds sF.n c2.n) := rowIs_below hrow hBr
          obtain ⟨AW, hAW⟩ : ∃ AW, AW = w14.heap.size := ⟨_, rfl⟩
          rw [← hAW] at hrow2 ⊢
          clear hMd4 hB14 hFc4 hBr hrow hDl hAW
          obtain ⟨i64, hi64, hy0, hy1, hy2⟩ := info_parts info64
          go_wp2_with fail
          go_loopg [20, 21] sF.n (fun gk v i wr => ∃ m : Nat, m ≤ sF.n ∧ gk = sF.n - m ∧ i = .int .i64 m ∧ wr.ownsRow w15.heap.size 64 5 v (wUp lg cr ds m).length ((wUp lg cr ds m).flatMap zvC) ∧ Below w15.heap.size w15 wr)
          case atStart => exact ⟨0, Nat.zero_le _, rfl, rfl, World.ownsRow_nil _ _ _ _, Below.refl _ _⟩
          case round =>
            obtain ⟨m, hm, rfl, rfl, hW, hBr⟩ := hrel
            by_cases hlt : m < sF.n
            · obtain ⟨j, hj⟩ : ∃ j, (firsts ds)[m]? = some j := ⟨(firsts ds)[m]'(by rw [← hFn'.out]; exact hlt), List.getElem?_eq_getElem _⟩
              have hjn : j < c2.n := by have := firsts_lt hj; have := hdln.out; omega
              obtain ⟨d, t, kk, hd, hE0⟩ := hMd5.dls.get hjn
              have hE := hE0.of_below (w' := wr) hBr
              obtain ⟨q, hq⟩ : ∃ q : Nat, d.log = (q : Int) := ⟨d.log.toNat, by have := hR1 j d hd; omega⟩
              have cF := (hFc5.of_below hBr).cell _ _ (ints_get hj)
              have c0' := hE.c0
              rw [hq] at c0'
              have c1' := hE.c1
              have c2' := hE.c2
              have c3' := hE.c3
              have c4' := hE.c4
              have aF := hFc5.at' (by omega)
              have a2 := hMd5.dls.at' (by omega)
              have hbs := hBr.size
              have hmI : (m : Int) < (sF.n : Int) := by omega
              have hjI : (j : Int) < (c2.n : Int) := by omega
              have hlt' : Hid (m < sF.n) := hlt
              have hwM : Hid (wUp lg cr ds (m + 1) = wUp lg cr ds m ++ wG lg cr ds d.id m d.to) := by
                show _ = _
                rw [wUp, wM, hj, Option.bind_some, hd]
              have hFr : ∃ fa fc, u20 = .slice fa (wUp lg cr ds m).length fc := by
                obtain ⟨s', h1, h2, _⟩ := ownsRow_cells hW
                exact ⟨_, _, by rw [h1, h2]⟩
              obtain ⟨fa, fc, rfl⟩ := hFr
              have hwul2 := wUp_len lg cr ds (fun d hd => (hfit d hd).1) hF1.hlg m
              have hdto := (hfit d (List.mem_of_getElem? hd)).1
              have htl : Hid (d.to.length = t.n) := strs_len hE0.to
              have htn : t.n ≤ 1048576 := by have := htl.out; omega
              clear hE
              go_upto_region 34 with fail
              go_cut [22] from 122 to 186 (fun s22 wx => s22 = .pointer (some ⟨wr.heap.size, 0, none⟩) ∧ MSt w15 wx (wUp lg cr ds m) (.slice fa (wUp lg cr ds m).length fc) wr.heap.size q d t kk)
              case first =>
                go_wp2_with fail
                (try rw [← aF]); (try rw [← a2])
                go_meet
                refine ⟨rfl, ownsRow_below' hW ((Below.refl _ wr).alloc (Nat.le_refl _) _), hBr.alloc hBr.size _, heap_alloc_new wr _, hbs, fun e => ?_⟩
                exact absurd (hW.lt _ e).2 (Nat.lt_irrefl _)
              case rest =>
              obtain ⟨rfl, hM⟩ := hcut
              clear c0' c1' c2' c3' c4' cF hW hBr hbs hj hd
              obtain ⟨D, hDD⟩ : ∃ D, D = wr.heap.size := ⟨_, rfl⟩
              rw [← hDD] at hM ⊢
              clear hDD
              go_wp2_with fail
              go_loopg [20, 23] t.n (fun gk v i wr => ∃ j : Nat, j ≤ t.n ∧ gk = t.n - j ∧ i = .int .i64 j ∧ MSt w15 wr (wUp lg cr ds m ++ wG lg cr ds d.id m (d.to.take j)) v D q d t kk)
              case atStart => exact ⟨0, Nat.zero_le _, rfl, rfl, by simpa [wG] using hM⟩
              case round =>
                obtain ⟨j2, hj2, rfl, rfl, hM2⟩ := hrel
                clear hM
                have b3 : wr.cell? ⟨D, 3, none⟩ = some (.slice t.a t.n t.cap) := hM2.blk.cell 3
                by_cases hjl : j2 < t.n
                · obtain ⟨y, hy⟩ : ∃ y, d.to[j2]? = some y := ⟨d.to[j2]'(by rw [htl.out]; exact hjl), List.getElem?_eq_getElem _⟩
                  have ct := (hE0.to.of_below hM2.below).cell _ _ (strs_get hy)
                  have at' := hE0.to.at' (by omega)
                  have hjI2 : (j2 : Int) < (t.n : Int) := by omega
                  have hjl' : Hid (j2 < t.n) := hjl
                  have htk : Hid (d.to.take (j2 + 1) = d.to.take j2 ++ [y]) := by show _ = _; rw [List.take_add_one, hy]; rfl
                  have hgl := wG_len lg cr ds d.id m (d.to.take j2)
                  have hgl2 : (wG lg cr ds d.id m (d.to.take j2)).length ≤ 268435456 := Nat.le_trans hgl (by
                    have h1 : (d.to.take j2).length ≤ 1048576 := by rw [List.length_take]; have := htl.out; omega
                    exact Nat.le_trans (Nat.mul_le_mul h1 hF1.hlg) (by omega))
                  obtain ⟨Y, hYd⟩ : ∃ Y, Y = wUp lg cr ds m ++ wG lg cr ds d.id m (d.to.take j2) := ⟨_, rfl⟩
                  have hYl : Y.length ≤ 1099780063232 := by rw [hYd, List.length_append]; omega
                  have hYd' : Hid (Y = wUp lg cr ds m ++ wG lg cr ds d.id m (d.to.take j2)) := hYd
                  rw [← hYd] at hM2
                  clear hYd hy hgl
                  go_wp2_with fail
                  go_loopg [20, 25] c1.n (fun gk v i wr => ∃ k : Nat, k ≤ c1.n ∧ gk = c1.n - k ∧ i = .int .i64 k ∧ MSt w15 wr (Y ++ wK lg cr ds d.id m y k) v D q d t kk)
                  case atStart => exact ⟨0, Nat.zero_le _, rfl, rfl, by simpa [wK] using hM2⟩
                  case round =>
                    obtain ⟨k, hk, rfl, rfl, hM3⟩ := hrel
                    clear hM2 b3 ct
                    by_cases hkl : k < c1.n
                    · obtain ⟨wo, rfl⟩ : ∃ wo : World, wo = wr := ⟨_, rfl⟩
                      obtain ⟨dq, hdq⟩ : ∃ dq, lg[k]? = some dq := ⟨lg[k]'(by rw [hlgn.out]; exact hkl), List.getElem?_eq_getElem _⟩
                      obtain ⟨_, l1, l2⟩ := log_cells (hMd5.lgs.of_below hM3.below) hdq
                      have hrep : repOf lg k = dq.rep := by simp [repOf, hdq]
                      have hgrp : grpOf lg k = dq.grp := by simp [grpOf, hdq]
                      obtain ⟨P, hP⟩ : ∃ P, P = k * sF.n := ⟨_, rfl⟩
                      obtain ⟨Q, hQ⟩ : ∃ Q, Q = P + m := ⟨_, rfl⟩
                      have hQN : Q < N := by
                        rw [hQ, hP, hN'.out]
                        have h1 : (k + 1) * sF.n ≤ c1.n * sF.n := Nat.mul_le_mul_right _ hkl
                        rw [Nat.succ_mul] at h1
                        have := hlt'.out
                        omega
                      have cA : wo.cell? ⟨AW, k, none⟩ = some (.bool (aliveAt lg cr k)) := by
                        have h1 := (rowIs_below hrow2 hM3.below).cell hkl
                        rw [h1, alRow, decide_eq_true hkl, Bool.true_and]
                      have cD : wo.cell? ⟨DW, Q, none⟩ = some (.bool (delvAt ds k m ds.length)) := by
                        have h1 := (rowIs_below hrow1 hM3.below).cell hQN
                        have hm0 := hlt'.out
                        have e1 : Q / sF.n = k := by rw [hQ, hP, Nat.mul_comm, Nat.mul_add_div (by omega), Nat.div_eq_of_lt hm0, Nat.add_zero]
                        have e2 : Q % sF.n = m := by rw [hQ, hP, Nat.mul_comm, Nat.mul_add_mod, Nat.mod_eq_of_lt hm0]
                        rw [h1, dlRow, e1, e2, hdln.out]
                      have hm1 : (k : Int) * (sF.n : Int) = (P : Int) := by rw [hP]; exact (Int.natCast_mul _ _).symm
                      have hw1 : IntKind.i64.wrap (P : Int) = (P : Int) := wrap_small P (by omega)
                      have hs1' : (P : Int) + (m : Int) = (Q : Int) := by omega
                      have hw2 : IntKind.i64.wrap (Q : Int) = (Q : Int) := wrap_small Q (by omega)
                      have hQI : (Q : Int) < (N : Int) := by omega
                      have hQ0 : (0 : Int) ≤ (Q : Int) := by omega
                      have hwk : Hid (Y ++ wK lg cr ds d.id m y (k + 1) = (Y ++ wK lg cr ds d.id m y k) ++ wK1 lg cr ds d.id m y k) := by show _ = _; rw [wK, List.append_assoc]
                      have hZl : (Y ++ wK lg cr ds d.id m y k).length ≤ 1099780063488 := by
                        have := wK_len lg cr ds d.id m y k
                        rw [List.length_append]; omega
                      obtain ⟨Z, hZd⟩ : ∃ Z, Z = Y ++ wK lg cr ds d.id m y k := ⟨_, rfl⟩
                      rw [← hZd] at hM3 hwk hZl
                      have hFr : ∃ fa fc, u20 = .slice fa Z.length fc := by
                        obtain ⟨s', h1, h2, _⟩ := ownsRow_cells hM3.own
                        exact ⟨_, _, by rw [h1, h2]⟩
                      obtain ⟨fa3, fc3, rfl⟩ := hFr
                      have b1 : wo.cell? ⟨D, 1, none⟩ = some (.string d.id) := hM3.blk.cell 1
                      have hbs := hM3.below.size
                      have a1 := hMd5.lgs.at' (by omega)
                      have hkI : (k : Int) < (c1.n : Int) := by omega
                      have hkl' : Hid (k < c1.n) := hkl
                      clear hZd hP hQ a2 aF at' hMd5 hE0 hrow1 hrow2 hFc5
                      by_cases e1 : dq.grp = y
                      · have q1 := beqL_true e1
                        cases hal : aliveAt lg cr k with
                        | false =>
                          have hno : Hid (wK1 lg cr ds d.id m y k = []) := by show _ = _; unfold wK1 inRow; rw [hal]; simp
                          rw [hal] at cA
                          go_wp2_with fail
                          (try rw [← a1])
                          go_roundg (c1.n - (k + 1))
                          case measure => have := hkl'.out; omega
                          case rel => exact ⟨k + 1, hkl'.out, rfl, by clear hm1 hw1 hs1' hw2; go_num, by rw [hwk.out, hno.out, List.append_nil]; exact hM3⟩
                        | true =>
                          rw [hal] at cA
                          cases hdv : delvAt ds k m ds.length with
                          | true =>
                            have hno : Hid (wK1 lg cr ds d.id m y k = []) := by show _ = _; unfold wK1; rw [hdv]; simp
                            rw [hdv] at cD
                            go_wp2_with fail
                            (try rw [← a1])
                            go_roundg (c1.n - (k + 1))
                            case measure => have := hkl'.out; omega
                            case rel => exact ⟨k + 1, hkl'.out, rfl, by clear hm1 hw1 hs1' hw2; go_num, by rw [hwk.out, hno.out, List.append_nil]; exact hM3⟩
                          | false =>
                            have hyes : Hid (wK1 lg cr ds d.id m y k = [⟨kMiss, d.id, dq.rep, ⟨#[]⟩, false⟩]) := by show _ = _; unfold wK1 inRow zMiss; rw [hdv, hal, hgrp, hrep, decide_eq_true e1]; simp
                            rw [hdv] at cD
                            go_upto_region 43 with fail
                            go_region_law ((refine step_append_lies _ (by rfl) _ _ 52 (by rfl) w15.heap.size 64 i64 _ 5 72 Try.underlying52 hi64 hy0 hy1 hy2 rfl (by omega) (.slice fa3 Z.length fc3) Z.length _ (by rfl) ((hM3.own.alloc _).drew) ⟨wo.heap.size, 0, none⟩ 1 1 (zvC ⟨kMiss, d.id, dq.rep, ⟨#[]⟩, false⟩) (by rfl) (by rfl) (zv_news wo ⟨kMiss, d.id, dq.rep, ⟨#[]⟩, false⟩ 64) (by simp [zvC, Value.oneCell']) (by omega) (by unfold maxLen; omega) (by omega) (by simp; omega) (wo.heap.size + 1) (by simp) ?_; intro gg cap w1 hown1 hgrow hat hltg))
                            all_goals go_wp2_with fail
                            all_goals
                              have hM6 := hM3.append ⟨kMiss, d.id, dq.rep, ⟨#[]⟩, false⟩ ((Below.refl _ wo).alloc (Nat.le_refl _) _).drew (by show (World.alloc _ _).heap.size = _; simp) hown1 hgrow hat
                              (try rw [← a1])
                              go_roundg (c1.n - (k + 1))
                              case measure => have := hkl'.out; omega
                              case rel => exact ⟨k + 1, hkl'.out, rfl, by clear hm1 hw1 hs1' hw2; go_num, by rw [hwk.out, hyes.out]; exact hM6⟩
                      · have q1 := beqL_false e1
                        have hno : Hid (wK1 lg cr ds d.id m y k = []) := by show _ = _; unfold wK1 inRow; rw [hgrp, decide_eq_false e1]; simp
                        go_wp2_with fail
                        (try rw [← a1])
                        go_roundg (c1.n - (k + 1))
                        case measure => have := hkl'.out; omega
                        case rel => exact ⟨k + 1, hkl'.out, rfl, by clear hm1 hw1 hs1' hw2; go_num, by rw [hwk.out, hno.out, List.append_nil]; exact hM3⟩
                    · obtain rfl : k = c1.n := by omega
                      have hend : wUp lg cr ds m ++ wG lg cr ds d.id m (d.to.take (j2 + 1)) = Y ++ wK lg cr ds d.id m y c1.n := by rw [htk.out, wG_snoc, hYd'.out, hlgn.out, List.append_assoc]
                      go_wp2_with fail
                      (try rw [← at'])
                      go_roundg (t.n - (j2 + 1))
                      case measure => have := hjl'.out; omega
                      case rel => exact ⟨j2 + 1, hjl'.out, rfl, by go_num, by rw [hend]; exact hM3⟩
                · obtain rfl : j2 = t.n := by omega
                  have hend : wUp lg cr ds (m + 1) = wUp lg cr ds m ++ wG lg cr ds d.id m (d.to.take t.n) := by rw [hwM.out, List.take_of_length_le (by rw [htl.out]; exact Nat.le_refl _)]
                  go_wp2_with fail
                  (try rw [← aF]); (try rw [← a2])
                  go_roundg (sF.n - (m + 1))
                  case measure => have := hlt'.out; omega
                  case rel => exact ⟨m + 1, hlt'.out, rfl, by go_num, by rw [hend]; exact hM2.own, hM2.below⟩
            · obtain rfl : m = sF.n := by omega
              obtain ⟨sw, hv1, hv2, hv3⟩ := ownsRow_cells hW
              subst hv1
              have hPn : vp.length = sP.n := hMd5.pre.len
              rw [hFn'.out] at hv3
              have h26 := violListMatches_any wr sG sw sP.n a (wUp lg cr ds (firsts ds).length) (hMd5.got.of_below hBr) hv3 (by rw [← hPn]; exact halen.out.1) halen.out.2 (by rw [← hPn]; exact hzall'.out)
              have hBf := below_next hB15 hBr
              clear hMd5 hFc5 hW hrow1 hrow2 hv2 hv3 hPn hF1 hR1 hfit
              go_wp2_with (go_at_call 26; refine h26.mono ?_; rintro e w16 ⟨rfl, hB16⟩)
              go_ret
              exact ⟨rfl, below_next hBf hB16⟩

end Go.Proofs.Qxb6601949a.Sc
