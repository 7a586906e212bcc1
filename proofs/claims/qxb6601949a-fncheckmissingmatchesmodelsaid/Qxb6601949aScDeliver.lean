/- THE SCRIPT LAWS: deliver: the whole. -/
import Derived.Test.Qxb6601949aScDelB
namespace Go.Proofs.Qxb6601949a.Sc
open Go.RowKit Go.Maps
set_option linter.unusedVariables false
set_option linter.unusedSimpArgs false

set_option maxRecDepth 100000 in
set_option maxHeartbeats 8000000 in
theorem deliver_any (w : World) (T : Nat → Nat) (B : Nat) (g : G) (h : St w T B g) (hG : Good g) (i : Nat) (hi : i < 4096) (hBn : Bnd i (ps g)) (q : Nat) (dq : Lp) (hq : g.desc[q]? = some dq)
    (id : ByteArray) (ts : Int) (tos : Sl) (to : List ByteArray) (kes : Sl) (keys : List (ByteArray × Bool)) (hI : Imm w T tos 1 (strsC to)) (hJ : Imm w T kes 2 (keysC keys)) (hid : id.size ≤ 1048576) (hton : tos.n ≤ 1048576) (hken : kes.n ≤ 1048576) :
    Calls Try.prog 54 #[.pointer (some ⟨g.R, 0, none⟩), .pointer (some ⟨g.L q, 0, none⟩), .agg #[.string id, .int .u64 ts, .slice tos.a tos.n tos.cap, .slice kes.a kes.n kes.cap]] w
      fun e w' => DelPost w T B g (stepP g.desc q ⟨id, ts, to, keys, q⟩ (ps g)) e w' := by
  have hdel : g.dels = i := hBn.dels
  have hml : g.msgs.length ≤ i := by have := hBn.msgs; simpa [ps] using this
  -- the count goes up, the entry is boxed
  have S1 : ∃ T1 g1, Keep0 T T1 w ((w.setCell ⟨g.R, 7, none⟩ (.int .i64 ((i : Int) + 1))).alloc (.cells #[.string id, .int .u64 ts, .slice tos.a tos.n tos.cap, .slice kes.a kes.n kes.cap] 75)) ∧
      St ((w.setCell ⟨g.R, 7, none⟩ (.int .i64 ((i : Int) + 1))).alloc (.cells #[.string id, .int .u64 ts, .slice tos.a tos.n tos.cap, .slice kes.a kes.n kes.cap] 75)) T1 B g1 ∧
      Ent ((w.setCell ⟨g.R, 7, none⟩ (.int .i64 ((i : Int) + 1))).alloc (.cells #[.string id, .int .u64 ts, .slice tos.a tos.n tos.cap, .slice kes.a kes.n kes.cap] 75)) T1 w.heap.size id ts tos to kes keys ∧
      g1 = { g with dels := g.dels + 1 } := by
    have k1 : Keep T T 1 w (w.setCell ⟨g.R, 7, none⟩ (.int .i64 ((i : Int) + 1))) := by have := Keep.set T w g.R 7 (.int .i64 ((i : Int) + 1)); rwa [h.tR] at this
    have hr := h.run.set 7 (.int .i64 ((i : Int) + 1))
    have S1 : St (w.setCell ⟨g.R, 7, none⟩ (.int .i64 ((i : Int) + 1))) T B { g with dels := g.dels + 1 } := h.put_run k1 (by rw [show ((i : Int) + 1) = ((g.dels + 1 : Nat) : Int) by omega] at hr ⊢; exact hr) rfl
    obtain ⟨T1, k2, hT1, S2⟩ := S1.below ((Below.refl _ _).alloc (Nat.le_refl _) (.cells #[.string id, .int .u64 ts, .slice tos.a tos.n tos.cap, .slice kes.a kes.n kes.cap] 75))
    have k02 : Keep0 T T1 (w.setCell ⟨g.R, 7, none⟩ (.int .i64 ((i : Int) + 1))) _ := ⟨k2.os, k2.tape, k2.output, k2.size, k2.tag, fun b hb _ => heap_alloc_old _ (.cells #[.string id, .int .u64 ts, .slice tos.a tos.n tos.cap, .slice kes.a kes.n kes.cap] 75) hb⟩
    have k0 := (k1.zero (by omega)).trans k02
    have hs : (w.setCell ⟨g.R, 7, none⟩ (.int .i64 ((i : Int) + 1))).heap.size = w.heap.size := by simp
    refine ⟨T1, _, k0, S2, ⟨?_, ?_, hI.keep0 (by omega) k0, hJ.keep0 (by omega) k0⟩, rfl⟩
    · have := heap_alloc_new (w.setCell ⟨g.R, 7, none⟩ (.int .i64 ((i : Int) + 1))) (.cells #[.string id, .int .u64 ts, .slice tos.a tos.n tos.cap, .slice kes.a kes.n kes.cap] 75)
      rwa [hs] at this
    · rw [hT1, hs]; exact if_neg (by omega)
  have c7 : w.cell? ⟨g.R, 7, none⟩ = some (.int .i64 (g.dels : Int)) := h.run.cell 7
  have f7 := h.run.frozen 7
  have hRl := h.run.lt
  have hdel' : (g.dels : Int) ≤ 4096 := by omega
  go_enter Try.func54, Try.ntmps54
  go_upto_region 2 with fail
  generalize ((w.setCell ⟨g.R, 7, none⟩ (.int .i64 ((i : Int) + 1))).alloc (.cells #[.string id, .int .u64 ts, .slice tos.a tos.n tos.cap, .slice kes.a kes.n kes.cap] 75)) = w1 at S1 ⊢
  obtain ⟨T1, g1, K1, S1, E1, hg1⟩ := S1
  generalize w.heap.size = E at E1 ⊢
  clear c7 f7
  have M1 : Same g g1 := by subst hg1; exact ⟨rfl, rfl, rfl, rfl, rfl, rfl, rfl⟩
  have G1 : Good g1 := by subst hg1; exact ⟨hG.idf, hG.idn, hG.frm⟩
  have P1 : ps g1 = { ps g with dels := (ps g).dels + 1 } := by subst hg1; rfl
  clear hg1
  -- the id is looked up
  have e0 : w1.cell? ⟨E, 0, none⟩ = some (.string id) := E1.blk.cell 0
  have r4 : w1.cell? ⟨g.R, 4, none⟩ = some (.map (some g1.M)) := by rw [← M1.R]; exact S1.run.cell 4
  have hL : ∀ x : World, x.heap = w1.heap → (Instr.lookup 82 (.map (some g1.M)) (.string id) true).run Try.prog x = .ok (.tuple #[(g1.idf id).getD (.int .i64 0), .bool (g1.idf id).isSome]) x := fun x hx =>
    (S1.ids.of_block (by rw [hx])).look_ok Try.underlying82 (zero3 x) id (by unfold maxLen; omega)
  go_cut [6, 7] from 11 (fun s6 s7 wx => s6 = (g1.idf id).getD (.int .i64 0) ∧ s7 = .bool (g1.idf id).isSome ∧ Below w1.heap.size w1 wx)
  case first =>
    go_region_held3 (fun w' => w'.cell? ⟨E, 0, none⟩ = some (.string id) ∧ w'.cell? ⟨g.R, 4, none⟩ = some (.map (some g1.M)) ∧ (Instr.lookup 82 (.map (some g1.M)) (.string id) true).run Try.prog w' = .ok (.tuple #[(g1.idf id).getD (.int .i64 0), .bool (g1.idf id).isSome]) w')
      ((go_split_ands; refine ⟨by go_keep, by go_keep, ?_⟩; exact hL _ rfl)) (fail)
    all_goals go_wp2_with fail
    all_goals (go_meet; exact ⟨rfl, rfl, ⟨rfl, rfl, rfl, Nat.le_refl _, fun _ _ => rfl⟩⟩)
  case rest =>
  obtain ⟨rfl, rfl, hbl⟩ := hcut
  obtain ⟨T2, g2, K2, S2, E2, M2, hg2⟩ := Here.below (P := fun x => x = g1) K1 S1 E1 M1 rfl hbl
  subst hg2
  clear hL e0 r4 S1 E1 K1 M1 hbl
  have hf := G1.idf id
  rw [show (ps g2).msgs = (ps g).msgs by rw [P1]] at hf
  generalize hv6 : (g2.idf id).getD (.int .i64 0) = v6
  generalize hok : (g2.idf id).isSome = ok
  -- a new id: a new message
  go_upto_if 31 with fail
  go_cut [6] from 11 (fun s6 wx => s6 = .int .i64 ((mOf (ps g) id : Nat) : Int) ∧ Here w T B g E id ts tos to kes keys (fun x => Good x ∧ ps x = st1 ⟨id, ts, to, keys, q⟩ (ps g)) wx)
  case first =>
    cases hix : idx (ps g).msgs id with
    | some k =>
      rw [hix] at hf
      rw [hf] at hv6 hok
      subst hv6 hok
      clear hf
      go_wp2_with fail
      go_meet
      exact ⟨by rw [show mOf (ps g) id = k by unfold mOf; rw [hix]; rfl], T2, g2, K2, S2, E2, M2, G1, by rw [P1]; simp [st1, hix]⟩
    | none =>
      rw [hix] at hf
      rw [hf] at hv6 hok
      subst hv6 hok
      have hmo : mOf (ps g) id = (ps g).msgs.length := by unfold mOf; rw [hix]; rfl
      obtain ⟨am, bm, cm, hmV, hms⟩ := S2.msgs.slice
      have r3 : wc.cell? ⟨g.R, 3, none⟩ = some (.slice am g2.msgs.length cm) := by rw [← hmV, ← M2.R]; exact S2.run.cell 3
      clear hf
      go_upto_region 5 with fail
      have e0 : wc.cell? ⟨E, 0, none⟩ = some (.string id) := E2.blk.cell 0
      have r4 : wc.cell? ⟨g.R, 4, none⟩ = some (.map (some g2.M)) := by rw [← M2.R]; exact S2.run.cell 4
      have hRl2 : g.R < wc.heap.size := by rw [← M2.R]; exact S2.run.lt
      have hEl2 : E < wc.heap.size := E2.blk.lt
      have nR : some g.R ≠ some g2.M := fun e => by have h1 := S2.tR; rw [M2.R, Option.some.inj e, S2.tM] at h1; omega
      have nE : some E ≠ some g2.M := fun e => by have h1 := E2.tag; rw [Option.some.inj e, S2.tM] at h1; omega
      have hidn : g2.idn ≤ i := by have := G1.idn; have h2 : (ps g2).msgs = (ps g).msgs := by rw [P1]
                                   have h3 : g2.msgs.length = g.msgs.length := by have := congrArg List.length h2; simpa [ps] using this
                                   omega
      go_cut [] from 11 (fun wx => Here w T B g E id ts tos to kes keys (fun x => x = { g2 with idn := g2.idn + 1, idf := fun y => if y = id then some (.int .i64 (g2.msgs.length : Int)) else g2.idf y }) wx)
      case first =>
        obtain ⟨w3, hr3, hM3, hgrow⟩ := (S2.ids.of_block (w' := wc.drew) rfl).update Try.underlying82 (by unfold maxLen; omega) id (by unfold maxLen; omega) (.int .i64 (g2.msgs.length : Int))
        go_region_held3 (fun w' => w'.cell? ⟨E, 0, none⟩ = some (.string id) ∧ w'.cell? ⟨g.R, 4, none⟩ = some (.map (some g2.M)))
          (first | go_keep | (go_split_ands; refine ⟨?_, ?_⟩; (rw [hgrow.cell_far _ hEl2 nE]; assumption); (rw [hgrow.cell_far _ hRl2 nR]; assumption)))
          (fail)
        all_goals go_wp2_with fail
        all_goals
          obtain ⟨T3, K3, S3⟩ := S2.put_ids _ _ ⟨hgrow.os, hgrow.tape, hgrow.output, hgrow.size, hgrow.block⟩ hM3
          go_meet
          exact Here.below (K2.trans (K3.zero (by omega))) S3 (E2.keep0 (K3.zero (by omega))) (M2.trans ⟨rfl, rfl, rfl, rfl, rfl, rfl, rfl⟩) rfl ⟨rfl, rfl, rfl, Nat.le_refl _, fun _ _ => rfl⟩
      case rest =>
      obtain ⟨T3, g3, K3, S3, E3, M3, hg3⟩ := hcut
      obtain ⟨i0, hi0, hz0, hz1, hz2⟩ := info_parts info88
      have hmsg3 : Hid (g3.msgs = g2.msgs) := by show _ = _; rw [hg3]
      have hps3 : Hid (ps g3 = ps g2) := by show _ = _; rw [hg3]; rfl
      have hidf3 : Hid (∀ y, g3.idf y = if y = id then some (.int .i64 (g2.msgs.length : Int)) else g2.idf y) := fun y => by rw [hg3]
      have hds3 : Hid (g3.desc = g2.desc) := by show _ = _; rw [hg3]
      have hidn3 : Hid (g3.idn = g2.idn + 1) := by show _ = _; rw [hg3]
      have hm2 : g2.msgs.length = g.msgs.length := by have h2 : (ps g2).msgs = (ps g).msgs := by rw [P1]
                                                      have := congrArg List.length h2; simpa [ps] using this
      have hm2' : Hid (g2.msgs.length = g.msgs.length) := hm2
      have hlen3 : g3.msgs.length ≤ i := by rw [hmsg3.out]; omega
      have hP1 : Hid (ps g2 = { ps g with dels := (ps g).dels + 1 }) := P1
      have hmo' : Hid (mOf (ps g) id = (ps g).msgs.length) := hmo
      clear hg3 hm2 hmo
      have hO := S3.msgs
      have e0 : wc.cell? ⟨E, 0, none⟩ = some (.string id) := E3.blk.cell 0
      have e1 : wc.cell? ⟨E, 1, none⟩ = some (.int .u64 ts) := E3.blk.cell 1
      have e2 : wc.cell? ⟨E, 2, none⟩ = some (.slice tos.a tos.n tos.cap) := E3.blk.cell 2
      have e3 : wc.cell? ⟨E, 3, none⟩ = some (.slice kes.a kes.n kes.cap) := E3.blk.cell 3
      have r3 : wc.cell? ⟨g.R, 3, none⟩ = some g3.msgV := by rw [← M3.R]; exact S3.run.cell 3
      have f3 : wc.frozen? ⟨g.R, 3, none⟩ = false := by rw [← M3.R]; exact S3.run.frozen 3
      have hRl3 : g.R < wc.heap.size := by rw [← M3.R]; exact S3.run.lt
      have hEl3 : E < wc.heap.size := E3.blk.lt
      have nR1 : wc.heap.size ≠ g.R := by omega
      have nE1 : wc.heap.size ≠ E := by omega
      have nR : some g.R ≠ g3.msgV.ownBlock := hO.ne (by rw [← M3.R, S3.tR]; omega)
      go_upto_region 6 with fail
      go_cut [] from 11 (fun wx => Here w T B g E id ts tos to kes keys (fun x => Good x ∧ ps x = st1 ⟨id, ts, to, keys, q⟩ (ps g)) wx)
      case first =>
        go_region_law ((refine step_append_lies _ (by rfl) _ _ 81 (by rfl) 0 88 i0 _ 5 80 Try.underlying81 hi0 hz0 hz1 hz2 rfl (by omega) g3.msgV g3.msgs.length _ (by rfl) ((hO.row.alloc _).drew) ⟨wc.heap.size, 0, none⟩ 1 1 (msgCells g.L ⟨id, ts, tos, to, kes, keys, q⟩) (by rfl) (by rfl) (World.news_of_block (cs := #[.string id, .int .u64 ts, .slice tos.a tos.n tos.cap, .slice kes.a kes.n kes.cap, .pointer (some ⟨g.L q, 0, none⟩)]) (t := 88) (fr := (0, 0)) (heap_alloc_new wc _)) (by simp [msgCells, Value.oneCell']) (by omega) (by unfold maxLen; omega) (by omega) (by omega) (wc.heap.size + 1) (by simp) ?_; intro gg cap w4 hown1 hgrow hat hlt; have c3 := (hgrow.cell_far ⟨g.R, 3, none⟩ (by simp; omega) nR).trans ((World.cell?_of_block (heap_alloc_old wc _ hRl3)).trans r3); have f3' := (hgrow.frozen_far ⟨g.R, 3, none⟩ (by simp; omega) nR).trans ((World.frozen?_of_block (heap_alloc_old wc _ hRl3)).trans f3)))
        all_goals go_wp2_with fail
        all_goals
          obtain ⟨T4, k4, ho⟩ := hO.appended (w0 := (wc.alloc _).drew) ((Below.refl _ wc).alloc (Nat.le_refl _) _).drew hown1 hgrow gg rfl (hat.imp (fun e => e) (fun e => by omega))
          rw [← M3.L] at ho
          obtain ⟨k0, S4⟩ := S3.put_msgs' M3.R k4 ⟨id, ts, tos, to, kes, keys, q⟩ _ ho E3.I E3.J
          go_meet
          exact Here.below (K3.trans k0) S4 (E3.keep0 k0) (M3.trans ⟨rfl, rfl, rfl, rfl, rfl, rfl, rfl⟩) (new_msg ⟨id, ts, tos, to, kes, keys, q⟩ _ hP1.out G1 hix hmsg3.out hps3.out hidf3.out hidn3.out hds3.out (by rw [M3.desc]; exact get_lt hq)) ⟨rfl, rfl, rfl, Nat.le_refl _, fun _ _ => rfl⟩
      case rest =>
      go_wp2_with fail
      go_meet
      exact ⟨by rw [hmo'.out, hm2'.out]; simp [ps], hcut⟩
  case rest =>
  obtain ⟨rfl, hcut⟩ := hcut
  apply_assumption
  exact deliver_B w T B g q dq hq id ts tos to kes keys hid hton hken E wc i hi hBn hcut _ _ _ _ _ _ _ _ _ _ _ _ _ _ _ _ _ _ _ _ _ _ _ _ _ _ _ _ _ _ _ _ _ _ _ _ _ _ _ _ _ _ _ _ _ _ _ _ _ _ _ _ _ _ _ _ _ _ _ _ _ _ _ _ _ _ _ _ _ _ _ _ _ _ _ _ _ _ _ _ _ _ _ _ _ _ _ _ _ _ _ _ _ _ _ _ _ _ _ _ _ _ _ _ _ _ _ _ _ _ _ _ _ _ _ _ _ _ _ _ _ _ _ _ _ _ _ _ _ _ _ _ _ _ _ _ _ _ _ _ _ _ _ _ _ _ _ _ _ _ _ _ _ _ _ _ _ _ _ _ _ _ _ _ _ _ _ _ _ _ _ _ _ _ _ _ _

end Go.Proofs.Qxb6601949a.Sc
