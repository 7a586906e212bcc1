/- THE SCRIPT LAWS: deliver: the last part. -/
import Derived.Test.Qxb6601949aScDelH
namespace Go.Proofs.Qxb6601949a.Sc
open Go.RowKit Go.Maps
set_option linter.unusedVariables false
set_option linter.unusedSimpArgs false

set_option maxRecDepth 100000 in
set_option maxHeartbeats 8000000 in
theorem deliver_C (w : World) (T : Nat → Nat) (B : Nat) (g : G) (q : Nat) (dq : Lp) (hq : g.desc[q]? = some dq)
    (id : ByteArray) (ts : Int) (tos : Sl) (to : List ByteArray) (kes : Sl) (keys : List (ByteArray × Bool)) (hid : id.size ≤ 1048576) (hton : tos.n ≤ 1048576) (hken : kes.n ≤ 1048576) (E : Nat) (wc : World) (m : Nat) (T6 : Nat → Nat) (g6 : G) (K6 : Keep0 T T6 w wc) (S6 : St wc T6 B g6) (E6 : Ent wc T6 E id ts tos to kes keys) (M6 : Same g g6) (G6 : Good g6) (s6 s : Ps) (P6 : ps g6 = s6) (hvs : s6.vios.length ≤ 8192) (hmm : m < s6.msgs.length) (hms : s6.msgs.length ≤ 8192)
    (hs : Hid (s = { s6 with vios := s6.vios ++ vio1 g.desc q ⟨id, ts, to, keys, q⟩ ++ vio2 g.desc q ⟨id, ts, to, keys, q⟩ (s6.msgs.getD m ⟨id, ts, to, keys, q⟩) })) (c2 c3 c4 c7 c8 c9 c10 c11 c12 c13 c14 c15 c16 c17 c18 c19 c20 c21 c22 c23 c24 c25 c26 c27 c28 c29 c30 c31 c32 c33 c34 c35 c36 c37 c38 c39 c40 c41 c42 c43 c44 c45 c46 c47 c48 c49 c50 c51 c52 c53 c54 c55 c56 c57 c58 c59 c60 c61 c62 c63 c64 c65 c66 c67 c68 c69 c70 c71 c72 c73 c74 c75 c76 c77 c78 c79 c80 c81 c82 c83 c84 c85 c86 c87 c88 c89 c90 c91 c92 c93 c94 c95 c96 c97 c98 c99 c100 c101 c102 c103 c104 c105 c106 c107 c108 c109 c110 c111 c112 c113 c114 c115 c116 c117 c118 c119 c120 c121 c122 c123 c124 c125 c126 c127 c128 c129 c130 c131 c132 c133 c134 c135 c136 c137 c138 c139 c140 c141 c142 c143 c144 c145 c146 c147 c148 c149 c150 c151 c152 c153 c154 c155 c156 c157 c158 c159 c160 c161 c162 c163 c164 c165 c166 c167 c168 c169 c170 c171 c172 c173 c174 c175 c176 c177 c178 c179 c180 : Value) :
    Code.wp Try.prog (tail54 14) (bodyPost Try.prog Try.f54 fun e w' => DelPost w T B g s e w') ⟨List.toArray (.pointer (some ⟨g.R, 0, none⟩) :: .pointer (some ⟨g.L q, 0, none⟩) :: c2 :: c3 :: c4 :: .pointer (some ⟨E, 0, none⟩) :: .int .i64 (m : Int) :: c7 :: c8 :: c9 :: c10 :: c11 :: c12 :: c13 :: c14 :: c15 :: c16 :: c17 :: c18 :: c19 :: c20 :: c21 :: c22 :: c23 :: c24 :: c25 :: c26 :: c27 :: c28 :: c29 :: c30 :: c31 :: c32 :: c33 :: c34 :: c35 :: c36 :: c37 :: c38 :: c39 :: c40 :: c41 :: c42 :: c43 :: c44 :: c45 :: c46 :: c47 :: c48 :: c49 :: c50 :: c51 :: c52 :: c53 :: c54 :: c55 :: c56 :: c57 :: c58 :: c59 :: c60 :: c61 :: c62 :: c63 :: c64 :: c65 :: c66 :: c67 :: c68 :: c69 :: c70 :: c71 :: c72 :: c73 :: c74 :: c75 :: c76 :: c77 :: c78 :: c79 :: c80 :: c81 :: c82 :: c83 :: c84 :: c85 :: c86 :: c87 :: c88 :: c89 :: c90 :: c91 :: c92 :: c93 :: c94 :: c95 :: c96 :: c97 :: c98 :: c99 :: c100 :: c101 :: c102 :: c103 :: c104 :: c105 :: c106 :: c107 :: c108 :: c109 :: c110 :: c111 :: c112 :: c113 :: c114 :: c115 :: c116 :: c117 :: c118 :: c119 :: c120 :: c121 :: c122 :: c123 :: c124 :: c125 :: c126 :: c127 :: c128 :: c129 :: c130 :: c131 :: c132 :: c133 :: c134 :: c135 :: c136 :: c137 :: c138 :: c139 :: c140 :: c141 :: c142 :: c143 :: c144 :: c145 :: c146 :: c147 :: c148 :: c149 :: c150 :: c151 :: c152 :: c153 :: c154 :: c155 :: c156 :: c157 :: c158 :: c159 :: c160 :: c161 :: c162 :: c163 :: c164 :: c165 :: c166 :: c167 :: c168 :: c169 :: c170 :: c171 :: c172 :: c173 :: c174 :: c175 :: c176 :: c177 :: c178 :: c179 :: c180 :: []), []⟩ wc := by
  conv => arg 2; whnf
  have hvl6 : g6.vios.length ≤ 8192 := by have h1 := congrArg (fun s : Ps => s.vios.length) P6; simp only [ps, List.length_map] at h1; omega
  have P6' : Hid (ps g6 = s6) := P6
  clear P6
  -- is the log's group among the destinations?
  have hqd6 : g6.desc[q]? = some dq := by rw [M6.desc]; exact hq
  have hlb6 : Blk wc (g.L q) 106 (logCells dq (g6.ordV q) (g6.plV q)) := by rw [← M6.L]; exact S6.lblk q dq hqd6
  have l2 : wc.cell? ⟨g.L q, 2, none⟩ = some (.string dq.grp) := hlb6.cell 2
  have e2 : wc.cell? ⟨E, 2, none⟩ = some (.slice tos.a tos.n tos.cap) := E6.blk.cell 2
  go_upto_region 14 with fail
  go_cut [124] from 8 (fun s124 wx => s124 = .bool (!memB dq.grp to) ∧ Below wc.heap.size wc wx)
  case first =>
    go_region_held3 (fun w' => w'.cell? ⟨g.L q, 2, none⟩ = some (.string dq.grp) ∧ w'.cell? ⟨E, 2, none⟩ = some (.slice tos.a tos.n tos.cap)) (go_keep)
      ((go_at_call 56; refine (contains_any _ tos to dq.grp (by omega) (by exact E6.I.cells.of_block rfl)).mono ?_; rintro e wr ⟨rfl, rfl⟩))
    all_goals go_wp2_with fail
    all_goals (go_meet; exact ⟨rfl, ⟨rfl, rfl, rfl, Nat.le_refl _, fun _ _ => rfl⟩⟩)
  case rest =>
  obtain ⟨rfl, hbl⟩ := hcut
  obtain ⟨T7, g7, K7, S7, E7, M7, hg7⟩ := Here.below (P := fun x => x = g6) K6 S6 E6 M6 rfl hbl
  subst hg7
  clear S6 E6 K6 M6 hbl hlb6 l2 e2 hqd6
  have hqd7 : g7.desc[q]? = some dq := by rw [M7.desc]; exact hq
  have hlb7 : Blk wc (g.L q) 106 (logCells dq (g7.ordV q) (g7.plV q)) := by rw [← M7.L]; exact S7.lblk q dq hqd7
  have l1 : wc.cell? ⟨g.L q, 1, none⟩ = some (.string dq.rep) := hlb7.cell 1
  have e0 : wc.cell? ⟨E, 0, none⟩ = some (.string id) := E7.blk.cell 0
  have hLl : g.L q < wc.heap.size := hlb7.lt
  have hEl : E < wc.heap.size := E7.blk.lt
  have nE1 : wc.heap.size ≠ E := by omega
  have nL1 : wc.heap.size ≠ g.L q := by omega
  have hvio1 : Hid (vio1 g.desc q ⟨id, ts, to, keys, q⟩ = if memB dq.grp to then [] else [⟨kWrong, [id], [dq.rep]⟩]) := by
    show _ = _
    unfold vio1
    rw [show grpOf g.desc q = dq.grp by simp [grpOf, hq], show repOf g.desc q = dq.rep by simp [repOf, hq]]
  generalize memB dq.grp to = mem at hvio1 ⊢
  go_upto_if 124 with fail
  go_cut [] from 8 (fun wx => Here w T B g E id ts tos to kes keys (fun x => Good x ∧ ps x = { ps g7 with vios := (ps g7).vios ++ vio1 g.desc q ⟨id, ts, to, keys, q⟩ }) wx)
  case first =>
    cases mem with
    | true =>
      go_wp2_with fail
      go_meet
      exact Here.below K7 S7 E7 M7 ⟨G6, by rw [hvio1.out]; simp⟩ ⟨rfl, rfl, rfl, Nat.le_refl _, fun _ _ => rfl⟩
    | false =>
      go_upto_region 15 with fail
      go_region_held3 (fun w' => w'.cell? ⟨E, 0, none⟩ = some (.string id) ∧ w'.cell? ⟨g.L q, 1, none⟩ = some (.string dq.rep))
        (first | go_keep | (go_split_ands; exact ⟨(E7.keep0 hKr).blk.cell 0, by have h9 := (hSr.lblk q dq (by rw [hMr.desc]; exact hqd7)).cell 1; rw [hMr.L, M7.L] at h9; exact h9⟩))
        ((go_at_call 57; refine (report_two wc T7 B g7 S7 (by omega) _ (by first | exact (((Below.refl _ wc).alloc (Nat.le_refl _) _).alloc (by simp) _).drew | exact (((Below.refl _ wc).drew.alloc (Nat.le_refl _) _).alloc (by simp) _)) g.R M7.R kWrong _ _ [id] [dq.rep] (by first | exact blk_two1 _ _ _ | exact blk_two2 _ _ _) (by simp) (by first | exact blk_two1 _ _ _ | exact blk_two2 _ _ _) (by simp)).mono ?_; rintro e wr ⟨rfl, Tr, gr, hKr, hSr, hMr, hGr, hPr⟩))
      all_goals go_wp2_with fail
      all_goals
        go_meet
        exact Here.below (K7.trans hKr) hSr (E7.keep0 hKr) (M7.trans hMr) ⟨hGr G6, by rw [hPr, hvio1.out]; rfl⟩ ⟨rfl, rfl, rfl, Nat.le_refl _, fun _ _ => rfl⟩
  case rest =>
  obtain ⟨T8, g8, K8, S8, E8, M8, G8, P8⟩ := hcut
  have P8' : Hid (ps g8 = { s6 with vios := s6.vios ++ vio1 g.desc q ⟨id, ts, to, keys, q⟩ }) := by show _ = _; rw [P8, P6'.out]
  have hvl8 : g8.vios.length ≤ 8193 := by
    have h1 := congrArg (fun s : Ps => s.vios.length) P8
    have h2 : (vio1 g.desc q ⟨id, ts, to, keys, q⟩).length ≤ 1 := by unfold vio1; split <;> simp
    simp only [ps, List.length_append, List.length_map] at h1
    omega
  have hms8 : g8.msgs.length = s6.msgs.length := by
    have h1 := congrArg (fun s : Ps => s.msgs.length) P8'.out
    simpa [ps] using h1
  have hml8 : m < g8.msgs.length := by omega
  have hmn8 : g8.msgs.length ≤ 8192 := by omega
  clear hms8
  obtain ⟨f, hf⟩ : ∃ f, g8.msgs[m]? = some f := ⟨_, List.getElem?_eq_getElem hml8⟩
  have hff : Hid (s6.msgs.getD m ⟨id, ts, to, keys, q⟩ = absM f) := by
    show _ = _
    have h1 : (ps g8).msgs = s6.msgs := by rw [P8'.out]
    rw [← h1]
    simp [ps, hf]
  obtain ⟨ftI, fkI⟩ := S8.msgI f (List.mem_of_getElem? hf)
  obtain ⟨df, hdf⟩ : ∃ d, g.desc[f.frm]? = some d := ⟨_, List.getElem?_eq_getElem (by have := G8.frm f (List.mem_of_getElem? hf); rwa [M8.desc] at this)⟩
  obtain ⟨ma, mb, mcap, hmv, hmc⟩ := S8.msgs.slice
  obtain ⟨hma, _, hmcell⟩ := hmc (by omega)
  subst hma
  have hmcells : ∀ j, j < 5 → ∀ u, (msgCells g8.L f)[j]? = some u → wc.cell? ⟨mb, m * 5 + j, none⟩ = some u := fun j hj u hu =>
    hmcell _ u ((flat_get (msgCells g8.L) 5 (fun _ => rfl) _ _ _ hf j hj).trans hu)
  have m0 : wc.cell? ⟨mb, m * 5, none⟩ = some (.string f.id) := hmcells 0 (by omega) _ rfl
  have m1 : wc.cell? ⟨mb, m * 5 + 1, none⟩ = some (.int .u64 f.ts) := hmcells 1 (by omega) _ rfl
  have m2 : wc.cell? ⟨mb, m * 5 + 2, none⟩ = some (.slice f.tos.a f.tos.n f.tos.cap) := hmcells 2 (by omega) _ rfl
  have m3 : wc.cell? ⟨mb, m * 5 + 3, none⟩ = some (.slice f.kes.a f.kes.n f.kes.cap) := hmcells 3 (by omega) _ rfl
  have m4 : wc.cell? ⟨mb, m * 5 + 4, none⟩ = some (.pointer (some ⟨g.L f.frm, 0, none⟩)) := by rw [← M8.L]; exact hmcells 4 (by omega) _ rfl
  have r3 : wc.cell? ⟨g.R, 3, none⟩ = some (.slice (some ⟨mb, 0, none⟩) g8.msgs.length mcap) := by rw [← hmv, ← M8.R]; exact S8.run.cell 3
  have hmI : (m : Int) < (g8.msgs.length : Int) := by omega
  have hnew := S8.below ((Below.refl _ wc).alloc (Nat.le_refl _) (.cells #[.string f.id, .int .u64 f.ts, .slice f.tos.a f.tos.n f.tos.cap, .slice f.kes.a f.kes.n f.kes.cap, .pointer (some ⟨g.L f.frm, 0, none⟩)] 88))
  clear hmv hmc hmcell hmcells P8 K7 S7 E7 M7 G6 hlb7 l1 e0 hLl hEl nE1 nL1 hqd7 P6' hvl6 hvio1
  -- the first description
  go_upto_region 16 with fail
  go_cut [10] from 11 (fun s10 wx => ∃ F T9, s10 = .pointer (some ⟨F, 0, none⟩) ∧ Keep0 T8 T9 wc wx ∧ St wx T9 B g8 ∧ Blk wx F 88 #[.string f.id, .int .u64 f.ts, .slice f.tos.a f.tos.n f.tos.cap, .slice f.kes.a f.kes.n f.kes.cap, .pointer (some ⟨g.L f.frm, 0, none⟩)] ∧ T9 F = 0)
  case first =>
    go_wp2_with fail
    go_meet
    obtain ⟨T9, k9, hT9, S9⟩ := hnew
    exact ⟨wc.heap.size, T9, rfl, ⟨k9.os, k9.tape, k9.output, k9.size, k9.tag, fun b hb _ => heap_alloc_old _ _ hb⟩, S9, heap_alloc_new _ _, by rw [hT9]; exact if_neg (by omega)⟩
  case rest =>
  obtain ⟨F, T9, rfl, K9, S9, hFb, hFt⟩ := hcut
  have E9 := E8.keep0 K9
  have ftI9 := ftI.keep0 (by omega) K9
  have fkI9 := fkI.keep0 (by omega) K9
  have K9' := K8.trans K9
  clear hnew m0 m1 m2 m3 m4 r3 hmI K8 S8 E8 ftI fkI K9
  have F1 : wc.cell? ⟨F, 1, none⟩ = some (.int .u64 f.ts) := hFb.cell 1
  have F2 : wc.cell? ⟨F, 2, none⟩ = some (.slice f.tos.a f.tos.n f.tos.cap) := hFb.cell 2
  have F3 : wc.cell? ⟨F, 3, none⟩ = some (.slice f.kes.a f.kes.n f.kes.cap) := hFb.cell 3
  have e1 : wc.cell? ⟨E, 1, none⟩ = some (.int .u64 ts) := E9.blk.cell 1
  have e2 : wc.cell? ⟨E, 2, none⟩ = some (.slice tos.a tos.n tos.cap) := E9.blk.cell 2
  have e3 : wc.cell? ⟨E, 3, none⟩ = some (.slice kes.a kes.n kes.cap) := E9.blk.cell 3
  have hvio2 : Hid (vio2 g.desc q ⟨id, ts, to, keys, q⟩ (absM f) = if decide (f.ts = ts ∧ f.to = to ∧ f.keys = keys) then [] else [⟨kTs, [id], [df.rep, dq.rep]⟩]) := by
    show _ = _
    unfold vio2
    rw [show repOf g.desc (absM f).frm = df.rep by show repOf g.desc f.frm = _; simp [repOf, hdf], show repOf g.desc q = dq.rep by simp [repOf, hq]]
    by_cases hc : f.ts = ts ∧ f.to = to ∧ f.keys = keys
    · exact (if_pos hc).trans (if_pos (decide_eq_true hc)).symm
    · exact (if_neg hc).trans (if_neg (by simpa using hc)).symm
  go_upto_region 17 with fail
  go_cut [165] from 11 (fun s165 wx => s165 = .bool (!decide (f.ts = ts ∧ f.to = to ∧ f.keys = keys)) ∧ Below wc.heap.size wc wx)
  case first =>
    by_cases c1 : f.ts = ts
    · have b1 : (f.ts != ts) = false := by simp [c1]
      by_cases c2 : f.to = to
      · have b2 : decide (f.to = to) = true := decide_eq_true c2
        by_cases c3 : f.keys = keys
        · have b3 : decide (f.keys = keys) = true := decide_eq_true c3
          have bb : decide (f.ts = ts ∧ f.to = to ∧ f.keys = keys) = true := decide_eq_true ⟨c1, c2, c3⟩
          clear c1 c2 c3
          go_wp2_with (first | (go_at_call 58; refine (equal58_any _ f.tos tos f.to to (by omega) (by exact ftI9.cells.of_block rfl) (by exact E9.I.cells.of_block rfl)).mono ?_; rw [b2]; rintro e wr ⟨rfl, mm, rfl⟩) | (go_at_call 59; refine (equal59_any _ f.kes kes f.keys keys (by omega) (by exact fkI9.cells.of_block rfl) (by exact E9.J.cells.of_block rfl)).mono ?_; rw [b3]; rintro e wr ⟨rfl, mm, rfl⟩))
          go_meet
          exact ⟨by rw [bb]; rfl, ⟨rfl, rfl, rfl, Nat.le_refl _, fun _ _ => rfl⟩⟩
        · have b3 : decide (f.keys = keys) = false := decide_eq_false c3
          have bb : decide (f.ts = ts ∧ f.to = to ∧ f.keys = keys) = false := decide_eq_false (fun h => c3 h.2.2)
          clear c1 c2 c3
          go_wp2_with (first | (go_at_call 58; refine (equal58_any _ f.tos tos f.to to (by omega) (by exact ftI9.cells.of_block rfl) (by exact E9.I.cells.of_block rfl)).mono ?_; rw [b2]; rintro e wr ⟨rfl, mm, rfl⟩) | (go_at_call 59; refine (equal59_any _ f.kes kes f.keys keys (by omega) (by exact fkI9.cells.of_block rfl) (by exact E9.J.cells.of_block rfl)).mono ?_; rw [b3]; rintro e wr ⟨rfl, mm, rfl⟩))
          go_meet
          exact ⟨by rw [bb]; rfl, ⟨rfl, rfl, rfl, Nat.le_refl _, fun _ _ => rfl⟩⟩
      · have b2 : decide (f.to = to) = false := decide_eq_false c2
        have bb : decide (f.ts = ts ∧ f.to = to ∧ f.keys = keys) = false := decide_eq_false (fun h => c2 h.2.1)
        clear c1 c2
        go_wp2_with (go_at_call 58; refine (equal58_any _ f.tos tos f.to to (by omega) (by exact ftI9.cells.of_block rfl) (by exact E9.I.cells.of_block rfl)).mono ?_; rw [b2]; rintro e wr ⟨rfl, mm, rfl⟩)
        go_meet
        exact ⟨by rw [bb]; rfl, ⟨rfl, rfl, rfl, Nat.le_refl _, fun _ _ => rfl⟩⟩
    · have b1 : (f.ts != ts) = true := by simp [c1]
      have bb : decide (f.ts = ts ∧ f.to = to ∧ f.keys = keys) = false := decide_eq_false (fun h => c1 h.1)
      clear c1
      go_wp2_with fail
      go_meet
      exact ⟨by rw [bb]; rfl, ⟨rfl, rfl, rfl, Nat.le_refl _, fun _ _ => rfl⟩⟩
  case rest =>
  obtain ⟨rfl, hbl⟩ := hcut
  have hFb' := hFb.of_below hbl
  obtain ⟨Ta, ka, _, Sa⟩ := S9.below hbl
  have K0 : Keep0 T9 Ta _ wc := ⟨ka.os, ka.tape, ka.output, ka.size, ka.tag, fun b hb _ => hbl.block b hb⟩
  have Ea := E9.keep0 K0
  have Ka := K9'.trans K0
  have hFt' : Ta F = 0 := (K0.tag F hFb.lt).trans hFt
  clear F1 F2 F3 e1 e2 e3 E9 S9 K9' hFb hFt ftI9 fkI9 hbl ka K0
  have hqd8 : g8.desc[q]? = some dq := by rw [M8.desc]; exact hq
  have hfd8 : g8.desc[f.frm]? = some df := by rw [M8.desc]; exact hdf
  have hlbq : Blk wc (g.L q) 106 (logCells dq (g8.ordV q) (g8.plV q)) := by rw [← M8.L]; exact Sa.lblk q dq hqd8
  have hlbf : Blk wc (g.L f.frm) 106 (logCells df (g8.ordV f.frm) (g8.plV f.frm)) := by rw [← M8.L]; exact Sa.lblk f.frm df hfd8
  have l1 : wc.cell? ⟨g.L q, 1, none⟩ = some (.string dq.rep) := hlbq.cell 1
  have k1 : wc.cell? ⟨g.L f.frm, 1, none⟩ = some (.string df.rep) := hlbf.cell 1
  have e0 : wc.cell? ⟨E, 0, none⟩ = some (.string id) := Ea.blk.cell 0
  have F4 : wc.cell? ⟨F, 4, none⟩ = some (.pointer (some ⟨g.L f.frm, 0, none⟩)) := hFb'.cell 4
  have hLl := hlbq.lt
  have hKl := hlbf.lt
  have hEl := Ea.blk.lt
  have hFl := hFb'.lt
  have nE1 : wc.heap.size ≠ E := by omega
  have nL1 : wc.heap.size ≠ g.L q := by omega
  have nK1 : wc.heap.size ≠ g.L f.frm := by omega
  have nF1 : wc.heap.size ≠ F := by omega
  generalize decide (f.ts = ts ∧ f.to = to ∧ f.keys = keys) = eqs at hvio2 ⊢
  go_upto_if 165 with fail
  cases eqs with
  | true =>
    go_wp2_with fail
    go_end0
    exact ⟨rfl, Ta, g8, Ka, Sa, M8, G8, by rw [P8'.out, hs.out, hff.out, hvio2.out]; simp⟩
  | false =>
    go_upto_region 18 with fail
    go_region_held3 (fun w' => w'.cell? ⟨E, 0, none⟩ = some (.string id) ∧ w'.cell? ⟨g.L q, 1, none⟩ = some (.string dq.rep) ∧ w'.cell? ⟨g.L f.frm, 1, none⟩ = some (.string df.rep) ∧ w'.cell? ⟨F, 4, none⟩ = some (.pointer (some ⟨g.L f.frm, 0, none⟩)))
      (first | go_keep | (go_split_ands; exact ⟨(Ea.keep0 hKr).blk.cell 0, by have h9 := (hSr.lblk q dq (by rw [hMr.desc]; exact hqd8)).cell 1; rw [hMr.L, M8.L] at h9; exact h9, by have h9 := (hSr.lblk f.frm df (by rw [hMr.desc]; exact hfd8)).cell 1; rw [hMr.L, M8.L] at h9; exact h9, by have h9 : Blk wr F 88 _ := (hKr.block F hFl hFt').trans hFb'; exact h9.cell 4⟩))
      ((go_at_call 57; refine (report_two wc Ta B g8 Sa (by omega) _ (by first | exact (((Below.refl _ wc).alloc (Nat.le_refl _) _).alloc (by simp) _).drew | exact (((Below.refl _ wc).drew.alloc (Nat.le_refl _) _).alloc (by simp) _)) g.R M8.R kTs _ _ [id] [df.rep, dq.rep] (by first | exact blk_two1 _ _ _ | exact blk_two2 _ _ _) (by simp) (by first | exact blk_two1 _ _ _ | exact blk_two2 _ _ _) (by simp)).mono ?_; rintro e wr ⟨rfl, Tr, gr, hKr, hSr, hMr, hGr, hPr⟩))
    all_goals go_wp2_with fail
    all_goals
      go_end0
      exact ⟨rfl, Tr, gr, Ka.trans hKr, hSr, M8.trans hMr, hGr G8, by rw [hPr, P8'.out, hs.out, hff.out, hvio2.out]; rfl⟩

end Go.Proofs.Qxb6601949a.Sc
