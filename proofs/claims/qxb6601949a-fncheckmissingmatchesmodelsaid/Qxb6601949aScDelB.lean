/- THE SCRIPT LAWS: deliver: the middle part. -/
import Derived.Test.Qxb6601949aScDelC
namespace Go.Proofs.Qxb6601949a.Sc
open Go.RowKit Go.Maps
set_option linter.unusedVariables false
set_option linter.unusedSimpArgs false

set_option maxRecDepth 100000 in
set_option maxHeartbeats 8000000 in
theorem deliver_B (w : World) (T : Nat → Nat) (B : Nat) (g : G) (q : Nat) (dq : Lp) (hq : g.desc[q]? = some dq)
    (id : ByteArray) (ts : Int) (tos : Sl) (to : List ByteArray) (kes : Sl) (keys : List (ByteArray × Bool)) (hid : id.size ≤ 1048576) (hton : tos.n ≤ 1048576) (hken : kes.n ≤ 1048576) (E : Nat) (wc : World) (i : Nat) (hi : i < 4096) (hBn : Bnd i (ps g)) (hcut : Here w T B g E id ts tos to kes keys (fun x => Good x ∧ ps x = st1 ⟨id, ts, to, keys, q⟩ (ps g)) wc) (c2 c3 c4 c7 c8 c9 c10 c11 c12 c13 c14 c15 c16 c17 c18 c19 c20 c21 c22 c23 c24 c25 c26 c27 c28 c29 c30 c31 c32 c33 c34 c35 c36 c37 c38 c39 c40 c41 c42 c43 c44 c45 c46 c47 c48 c49 c50 c51 c52 c53 c54 c55 c56 c57 c58 c59 c60 c61 c62 c63 c64 c65 c66 c67 c68 c69 c70 c71 c72 c73 c74 c75 c76 c77 c78 c79 c80 c81 c82 c83 c84 c85 c86 c87 c88 c89 c90 c91 c92 c93 c94 c95 c96 c97 c98 c99 c100 c101 c102 c103 c104 c105 c106 c107 c108 c109 c110 c111 c112 c113 c114 c115 c116 c117 c118 c119 c120 c121 c122 c123 c124 c125 c126 c127 c128 c129 c130 c131 c132 c133 c134 c135 c136 c137 c138 c139 c140 c141 c142 c143 c144 c145 c146 c147 c148 c149 c150 c151 c152 c153 c154 c155 c156 c157 c158 c159 c160 c161 c162 c163 c164 c165 c166 c167 c168 c169 c170 c171 c172 c173 c174 c175 c176 c177 c178 c179 c180 : Value) :
    Code.wp Try.prog (tail54 7) (bodyPost Try.prog Try.f54 fun e w' => DelPost w T B g (stepP g.desc q ⟨id, ts, to, keys, q⟩ (ps g)) e w') ⟨List.toArray (.pointer (some ⟨g.R, 0, none⟩) :: .pointer (some ⟨g.L q, 0, none⟩) :: c2 :: c3 :: c4 :: .pointer (some ⟨E, 0, none⟩) :: .int .i64 ((mOf (ps g) id : Nat) : Int) :: c7 :: c8 :: c9 :: c10 :: c11 :: c12 :: c13 :: c14 :: c15 :: c16 :: c17 :: c18 :: c19 :: c20 :: c21 :: c22 :: c23 :: c24 :: c25 :: c26 :: c27 :: c28 :: c29 :: c30 :: c31 :: c32 :: c33 :: c34 :: c35 :: c36 :: c37 :: c38 :: c39 :: c40 :: c41 :: c42 :: c43 :: c44 :: c45 :: c46 :: c47 :: c48 :: c49 :: c50 :: c51 :: c52 :: c53 :: c54 :: c55 :: c56 :: c57 :: c58 :: c59 :: c60 :: c61 :: c62 :: c63 :: c64 :: c65 :: c66 :: c67 :: c68 :: c69 :: c70 :: c71 :: c72 :: c73 :: c74 :: c75 :: c76 :: c77 :: c78 :: c79 :: c80 :: c81 :: c82 :: c83 :: c84 :: c85 :: c86 :: c87 :: c88 :: c89 :: c90 :: c91 :: c92 :: c93 :: c94 :: c95 :: c96 :: c97 :: c98 :: c99 :: c100 :: c101 :: c102 :: c103 :: c104 :: c105 :: c106 :: c107 :: c108 :: c109 :: c110 :: c111 :: c112 :: c113 :: c114 :: c115 :: c116 :: c117 :: c118 :: c119 :: c120 :: c121 :: c122 :: c123 :: c124 :: c125 :: c126 :: c127 :: c128 :: c129 :: c130 :: c131 :: c132 :: c133 :: c134 :: c135 :: c136 :: c137 :: c138 :: c139 :: c140 :: c141 :: c142 :: c143 :: c144 :: c145 :: c146 :: c147 :: c148 :: c149 :: c150 :: c151 :: c152 :: c153 :: c154 :: c155 :: c156 :: c157 :: c158 :: c159 :: c160 :: c161 :: c162 :: c163 :: c164 :: c165 :: c166 :: c167 :: c168 :: c169 :: c170 :: c171 :: c172 :: c173 :: c174 :: c175 :: c176 :: c177 :: c178 :: c179 :: c180 :: []), []⟩ wc := by
  conv => arg 2; whnf
  obtain ⟨T3, g3, K3, S3, E3, M3, G3, P3⟩ := hcut
  have hmle : mOf (ps g) id ≤ i := by have := mOf_le (ps g) id; have := hBn.msgs; omega
  have hmlt : Hid (mOf (ps g) id < (ps g3).msgs.length) := by show _ < _; rw [P3]; exact mOf_lt ⟨id, ts, to, keys, q⟩ (ps g)
  have hpl3 : Hid (g3.pl = (ps g).pl) := by show (ps g3).pl = _; rw [P3]; rfl
  have hord3 : Hid (g3.ord = (ps g).ord) := by show (ps g3).ord = _; rw [P3]; rfl
  have P3' : Hid (ps g3 = st1 ⟨id, ts, to, keys, q⟩ (ps g)) := P3
  have hstep : Hid (stepP g.desc q ⟨id, ts, to, keys, q⟩ (ps g) = if (plc (g3.pl q) (mOf (ps g) id)).isSome then { ps g3 with vios := (ps g3).vios ++ [⟨kDup, [id], [dq.rep]⟩] } else { st2 q (mOf (ps g) id) (ps g3) with vios := (ps g3).vios ++ vio1 g.desc q ⟨id, ts, to, keys, q⟩ ++ vio2 g.desc q ⟨id, ts, to, keys, q⟩ ((ps g3).msgs.getD (mOf (ps g) id) ⟨id, ts, to, keys, q⟩) }) := by
    show _ = _
    rw [hpl3.out, P3]
    unfold stepP
    rw [show repOf g.desc q = dq.rep by simp [repOf, hq]]
    rfl
  have hpll : (g3.pl q).length ≤ i := by rw [hpl3.out]; exact hBn.pl q
  have hplx : ∀ x, x ∈ g3.pl q → x ≤ i := by rw [hpl3.out]; exact hBn.plx q
  have hordl : (g3.ord q).length ≤ i := by rw [hord3.out]; exact hBn.ord q
  have hviol : g3.vios.length ≤ 8192 := by
    have h1 : (ps g3).vios = (ps g).vios := by rw [P3]; rfl
    have h2 := congrArg List.length h1
    have h3 := hBn.vios
    simp only [ps, List.length_map] at h2 h3
    omega
  have hqd3 : g3.desc[q]? = some dq := by rw [M3.desc]; exact hq
  have hql3 := get_lt hqd3
  have hlb : Blk wc (g.L q) 106 (logCells dq (g3.ordV q) (g3.plV q)) := by rw [← M3.L]; exact S3.lblk q dq hqd3
  have hPlO := S3.pl q hql3
  generalize hmm : mOf (ps g) id = m at hmle hmlt hstep ⊢
  clear P3 hmm
  -- has the log given it before?
  have hPc := fun (o : Value) => place_any wc (g.L q) (g3.ordV q) dq T3 (7 + 3 * q) (g3.plV q) (g3.pl q) hlb hPlO (by omega) (fun x hx => by have := hplx x hx; omega) m (by omega)
  go_upto_region 8 with (go_at_call 55; refine (hPc undef).mono ?_; rintro e w5 ⟨rfl, rfl⟩)
  clear hPc
  cases hplc : plc (g3.pl q) m with
  | some p =>
    rw [hplc] at hstep
    have e0 : w5.cell? ⟨E, 0, none⟩ = some (.string id) := E3.blk.cell 0
    have l1 : w5.cell? ⟨g.L q, 1, none⟩ = some (.string dq.rep) := hlb.cell 1
    have hLl : g.L q < w5.heap.size := hlb.lt
    have hEl : E < w5.heap.size := E3.blk.lt
    have nE1 : w5.heap.size ≠ E := by omega
    have nL1 : w5.heap.size ≠ g.L q := by omega
    go_upto_region 9 with fail
    go_region_held3 (fun w' => w'.cell? ⟨E, 0, none⟩ = some (.string id) ∧ w'.cell? ⟨g.L q, 1, none⟩ = some (.string dq.rep))
      (first | go_keep | (go_split_ands; exact ⟨(E3.keep0 hKr).blk.cell 0, by have h9 := (hSr.lblk q dq (by rw [hMr.desc]; exact hqd3)).cell 1; rw [hMr.L, M3.L] at h9; exact h9⟩))
      ((go_at_call 57; refine (report_two w5 T3 B g3 S3 (by omega) _ (by first | exact (((Below.refl _ w5).alloc (Nat.le_refl _) _).alloc (by simp) _).drew | exact (((Below.refl _ w5).drew.alloc (Nat.le_refl _) _).alloc (by simp) _)) g.R M3.R kDup _ _ [id] [dq.rep] (by first | exact blk_two1 _ _ _ | exact blk_two2 _ _ _) (by simp) (by first | exact blk_two1 _ _ _ | exact blk_two2 _ _ _) (by simp)).mono ?_; rintro e wr ⟨rfl, Tr, gr, hKr, hSr, hMr, hGr, hPr⟩))
    all_goals go_wp2_with fail
    all_goals
      refine bodyPost_ret (v := .tuple #[]) (by simp [results, Try.results54]) rfl ⟨rfl, Tr, gr, K3.trans hKr, hSr, M3.trans hMr, hGr G3, ?_⟩
      rw [hPr, hstep.out]; rfl
  | none =>
  rw [hplc] at hstep
  clear hplc
  -- the list of places grows
  have hLl : g.L q < w5.heap.size := hlb.lt
  obtain ⟨pa, pb, pcap, hpv, hpc⟩ := hPlO.slice
  have hPlO' := hPlO
  rw [hpv] at hPlO'
  have l4 : w5.cell? ⟨g.L q, 4, none⟩ = some (.slice pa (g3.pl q).length pcap) := by rw [← hpv]; exact hlb.cell 4
  have f4 : w5.frozen? ⟨g.L q, 4, none⟩ = false := hlb.frozen 4
  have nL := hPlO'.ne (b := g.L q) (by rw [← M3.L, S3.tL q hql3]; omega)
  clear hpv hpc
  go_upto_if 79 with fail
  go_cut [] from 8 (fun wx => Here w T B g E id ts tos to kes keys (fun x => Good x ∧ ps x = { ps g3 with pl := upd (ps g3).pl q (grow (g3.pl q) m) }) wx)
  case first =>
    by_cases hge : (g3.pl q).length ≤ m
    · have hd : decide (((g3.pl q).length : Int) ≤ (m : Int)) = true := decide_eq_true (by omega)
      have hgeI : ((g3.pl q).length : Int) ≤ (m : Int) := by omega
      have hc' : Hid (IntKind.i64.wrap (IntKind.i64.wrap ((m : Int) + 1) - ((g3.pl q).length : Int)) = ((m + 1 - (g3.pl q).length : Nat) : Int)) := wrap_diff m (g3.pl q).length hge (by omega)
      go_upto_region 11 with fail
      go_region_law ((refine step_append_zeros _ (by rfl) (.tmp 84) (.tmp 92) (by rfl) (.slice pa (g3.pl q).length pcap) (g3.pl q).length _ (by rfl) (hPlO'.row.drew) (m + 1 - (g3.pl q).length) (by exact congrArg (Value.int .i64) hc'.out) (by omega) (by omega) ?_; intro gg cap w6 hown1 hgrow hat hlt; have c4' := (hgrow.cell_far ⟨g.L q, 4, none⟩ hLl nL).trans l4; have f4' := (hgrow.frozen_far ⟨g.L q, 4, none⟩ hLl nL).trans f4))
      all_goals go_wp2_with fail
      all_goals
        obtain ⟨T4, k4, ho⟩ := hPlO'.appended (w0 := w5.drew) (Below.refl _ w5).drew hown1 hgrow gg rfl (hat.imp (fun e => e) (fun e => Nat.le_of_eq e.symm))
        rw [← grow_len, ← grow_ints] at ho
        rw [← grow_len] at *
        obtain ⟨k0, S4⟩ := S3.put_pl' q dq hqd3 (by rw [M3.L]) k4 (grow (g3.pl q) m) _ ho
        go_meet
        exact Here.below (K3.trans k0) S4 (E3.keep0 k0) (M3.trans ⟨rfl, rfl, rfl, rfl, rfl, rfl, rfl⟩) ⟨⟨G3.idf, G3.idn, G3.frm⟩, rfl⟩ ⟨rfl, rfl, rfl, Nat.le_refl _, fun _ _ => rfl⟩
    · have hd : decide (((g3.pl q).length : Int) ≤ (m : Int)) = false := decide_eq_false (by omega)
      have hgeI : ¬ ((g3.pl q).length : Int) ≤ (m : Int) := by omega
      go_wp2_with fail
      go_meet
      exact Here.below K3 S3 E3 M3 ⟨G3, by rw [grow_id (by omega), show g3.pl q = (ps g3).pl q from rfl, upd_self]⟩ ⟨rfl, rfl, rfl, Nat.le_refl _, fun _ _ => rfl⟩
  case rest =>
  obtain ⟨T4, g4, K4, S4, E4, M4, G4, P4⟩ := hcut
  have P4' : Hid (ps g4 = { ps g3 with pl := upd (ps g3).pl q (grow (g3.pl q) m) }) := P4
  have hord4 : Hid (g4.ord = g3.ord) := by show (ps g4).ord = _; rw [P4]; rfl
  have hpl4 : Hid (g4.pl q = grow (g3.pl q) m) := by show (ps g4).pl q = _; rw [P4]; exact upd_same _ _ _
  have hordl4 : (g4.ord q).length ≤ i := by rw [hord4.out]; exact hordl
  clear P4 hlb hPlO hPlO' l4 f4 nL hLl
  -- the order grows
  have hqd4 : g4.desc[q]? = some dq := by rw [M4.desc]; exact hq
  have hql4 := get_lt hqd4
  obtain ⟨i3, hi3, hy0, hy1, hy2⟩ := info_parts info3
  have hlb4 : Blk wc (g.L q) 106 (logCells dq (g4.ordV q) (g4.plV q)) := by rw [← M4.L]; exact S4.lblk q dq hqd4
  have hLl4 : g.L q < wc.heap.size := hlb4.lt
  have hOrO := S4.ord q hql4
  have l3 : wc.cell? ⟨g.L q, 3, none⟩ = some (g4.ordV q) := hlb4.cell 3
  have f3 : wc.frozen? ⟨g.L q, 3, none⟩ = false := hlb4.frozen 3
  have nL := hOrO.ne (b := g.L q) (by rw [← M4.L, S4.tL q hql4]; omega)
  go_upto_region 12 with fail
  go_cut [] from 8 (fun wx => Here w T B g E id ts tos to kes keys (fun x => Good x ∧ ps x = { ps g4 with ord := upd (ps g4).ord q (g4.ord q ++ [m]) }) wx)
  case first =>
    go_wp2_with (at_builtin; refine wpList_append_lies _ rfl _ _ 25 rfl 0 3 i3 _ 1 8 Try.underlying25 hi3 hy0 hy1 hy2 rfl (by omega) (g4.ordV q) (g4.ord q).length _ rfl (hOrO.row.alloc _) ⟨wc.heap.size, 0, none⟩ 1 1 [.int .i64 (m : Int)] rfl rfl (cell_one_new _ _ _) (by simp [Value.oneCell']) (by omega) (by unfold maxLen; omega) (by omega) (by omega) (wc.heap.size + 1) (by simp) ?_; intro gg cap w6 hown1 hgrow hat hlt; have c3' := (hgrow.cell_far ⟨g.L q, 3, none⟩ (by simp; omega) nL).trans ((World.cell?_of_block (heap_alloc_old _ _ hLl4)).trans l3); have f3' := (hgrow.frozen_far ⟨g.L q, 3, none⟩ (by simp; omega) nL).trans ((World.frozen?_of_block (heap_alloc_old _ _ hLl4)).trans f3))
    obtain ⟨T5, k5, ho⟩ := hOrO.appended ((Below.refl _ wc).alloc (Nat.le_refl _) _) hown1 hgrow gg rfl (hat.imp (fun e => e) (fun e => by omega))
    have ho' : Own w6 T5 (6 + 3 * q) 3 1 (.slice (some ⟨gg, 0, none⟩) ((g4.ord q).length + 1) cap) (g4.ord q ++ [m]).length (intsC (g4.ord q ++ [m])) := by
      have h1 : intsC (g4.ord q ++ [m]) = intsC (g4.ord q) ++ [.int .i64 (m : Int)] := by simp [intsC]
      rw [h1, List.length_append]; exact ho
    obtain ⟨k0, S5⟩ := S4.put_ord' q dq hqd4 (by rw [M4.L]) k5 (g4.ord q ++ [m]) _ ho'
    go_meet
    exact Here.below (K4.trans k0) S5 (E4.keep0 k0) (M4.trans ⟨rfl, rfl, rfl, rfl, rfl, rfl, rfl⟩) ⟨⟨G4.idf, G4.idn, G4.frm⟩, rfl⟩ ⟨rfl, rfl, rfl, Nat.le_refl _, fun _ _ => rfl⟩
  case rest =>
  obtain ⟨T5, g5, K5, S5, E5, M5, G5, P5⟩ := hcut
  have hord5 : Hid (g5.ord q = g3.ord q ++ [m]) := by show (ps g5).ord q = _; rw [P5, ← hord4.out]; exact upd_same _ _ _
  have hpl5 : Hid (g5.pl q = grow (g3.pl q) m) := by show (ps g5).pl q = _; rw [P5, ← hpl4.out]; rfl
  have hol5 : Hid ((g5.ord q).length = (g3.ord q).length + 1) := by show _ = _; rw [hord5.out]; simp
  have hpl5l : m < (g5.pl q).length := by rw [hpl5.out, grow_length]; omega
  have hpl5n : (g5.pl q).length ≤ 8192 := by rw [hpl5.out, grow_length]; omega
  have P5' : Hid (ps g5 = { st2 q m (ps g3) with pl := upd (ps g3).pl q (grow (g3.pl q) m) }) := by
    show _ = _
    rw [P5, P4'.out]
    show ({ ps g3 with pl := _, ord := upd (ps g3).ord q (g4.ord q ++ [m]) } : Ps) = _
    rw [hord4.out]; rfl
  clear P5 hlb4 hOrO l3 f3 nL hLl4 G4 S4 K4 E4 M4 hqd4 hql4
  -- the place is stored
  have hqd5 : g5.desc[q]? = some dq := by rw [M5.desc]; exact hq
  have hql5 := get_lt hqd5
  have hlb5 : Blk wc (g.L q) 106 (logCells dq (g5.ordV q) (g5.plV q)) := by rw [← M5.L]; exact S5.lblk q dq hqd5
  have hPlO := S5.pl q hql5
  obtain ⟨oa, ob, ocap, hov, hoc⟩ := (S5.ord q hql5).slice
  obtain ⟨pa5, pb5, pcap5, hpv, hpc⟩ := hPlO.slice
  obtain ⟨hpa, hpo, hpcell⟩ := hpc (by omega)
  subst hpa
  have l4 : wc.cell? ⟨g.L q, 4, none⟩ = some (.slice (some ⟨pb5, 0, none⟩) (g5.pl q).length pcap5) := by rw [← hpv]; exact hlb5.cell 4
  have l3 : wc.cell? ⟨g.L q, 3, none⟩ = some (.slice oa (g5.ord q).length ocap) := by rw [← hov]; exact hlb5.cell 3
  have nL : g.L q ≠ pb5 := fun e => by have h1 := S5.tL q hql5; rw [M5.L, e, hPlO.tag pb5 hpo] at h1; omega
  have nL' : pb5 ≠ g.L q := Ne.symm nL
  have cm : ∃ u, wc.cell? ⟨pb5, m, none⟩ = some u := ⟨_, hpcell m _ (ints_get (List.getElem?_eq_getElem hpl5l))⟩
  obtain ⟨um, cm⟩ := cm
  have fm : wc.frozen? ⟨pb5, m, none⟩ = false := by have h1 := hPlO.row; rw [hpv] at h1; exact h1.frozenAt m
  have hmI : (m : Int) < ((g5.pl q).length : Int) := by omega
  have hSet := S5.set_pl q hql5 pb5 pcap5 m (g5.ord q).length hpv
  clear hpv hov hoc hpc hpcell
  go_upto_region 13 with fail
  go_cut [] from 8 (fun wx => Here w T B g E id ts tos to kes keys (fun x => Good x ∧ ps x = st2 q m (ps g3)) wx)
  case first =>
    go_region_held3 (fun w' => w'.cell? ⟨g.L q, 3, none⟩ = some (.slice oa (g5.ord q).length ocap) ∧ w'.cell? ⟨g.L q, 4, none⟩ = some (.slice (some ⟨pb5, 0, none⟩) (g5.pl q).length pcap5)) (go_keep) (fail)
    all_goals go_wp2_with fail
    all_goals
      go_meet
      refine Here.below (K5.trans hSet.1) hSet.2 (E5.keep0 hSet.1) (M5.trans ⟨rfl, rfl, rfl, rfl, rfl, rfl, rfl⟩) ⟨⟨G5.idf, G5.idn, G5.frm⟩, ?_⟩ ⟨rfl, rfl, rfl, Nat.le_refl _, fun _ _ => rfl⟩
      show ({ ps g5 with pl := upd (ps g5).pl q ((g5.pl q).set m (g5.ord q).length) } : Ps) = _
      rw [P5'.out, hpl5.out, hol5.out]
      simp only [st2]
      congr 1
      funext j
      unfold upd
      split <;> rfl
  case rest =>
  obtain ⟨T6, g6, K6, S6, E6, M6, G6, P6⟩ := hcut
  have hvs : (st2 q m (ps g3)).vios.length ≤ 8192 := by show (g3.vios.map absV).length ≤ 8192; rw [List.length_map]; exact hviol
  have hms : (st2 q m (ps g3)).msgs.length ≤ 8192 := by
    have h2 := congrArg (fun s : Ps => s.msgs.length) P3'.out
    have h3 := hBn.msgs
    have h4 : (st1 ⟨id, ts, to, keys, q⟩ (ps g)).msgs.length ≤ (ps g).msgs.length + 1 := by unfold st1; split <;> simp
    show (ps g3).msgs.length ≤ 8192
    have h5 : (ps g3).msgs.length = (st1 ⟨id, ts, to, keys, q⟩ (ps g)).msgs.length := h2
    omega
  apply_assumption
  exact deliver_C w T B g q dq hq id ts tos to kes keys hid hton hken E wc m T6 g6 K6 S6 E6 M6 G6 (st2 q m (ps g3)) _ P6 hvs hmlt.out hms hstep _ _ _ _ _ _ _ _ _ _ _ _ _ _ _ _ _ _ _ _ _ _ _ _ _ _ _ _ _ _ _ _ _ _ _ _ _ _ _ _ _ _ _ _ _ _ _ _ _ _ _ _ _ _ _ _ _ _ _ _ _ _ _ _ _ _ _ _ _ _ _ _ _ _ _ _ _ _ _ _ _ _ _ _ _ _ _ _ _ _ _ _ _ _ _ _ _ _ _ _ _ _ _ _ _ _ _ _ _ _ _ _ _ _ _ _ _ _ _ _ _ _ _ _ _ _ _ _ _ _ _ _ _ _ _ _ _ _ _ _ _ _ _ _ _ _ _ _ _ _ _ _ _ _ _ _ _ _ _ _ _ _ _ _ _ _ _ _ _ _ _ _ _ _ _ _ _

end Go.Proofs.Qxb6601949a.Sc
