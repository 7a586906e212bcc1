/- THE SCRIPT LAWS: deliverModel. -/
import Derived.Test.Qxb6601949aScOrders
import Derived.Test.Qxb6601949aScRange
import Derived.Test.Qxb6601949aScFits
import Derived.Deep.CutRange
namespace Go.Proofs.Qxb6601949a.Sc
open Go.RowKit Go.Maps
set_option linter.unusedVariables false
set_option linter.unusedSimpArgs false

theorem info64 : (Try.prog.info? 64).map (fun i => (i.zero, i.size, i.bytes)) = some (some (.agg #[.string ⟨#[]⟩, .string ⟨#[]⟩, .string ⟨#[]⟩, .string ⟨#[]⟩, .bool false]), 5, 72) := by kernel_rfl

def z1 (lg : List Lp) (d : Dp) : Zv := ⟨kDup, d.id, repOf lg d.log.toNat, ⟨#[]⟩, false⟩
def z2 (lg : List Lp) (d : Dp) : Zv := ⟨kWrong, d.id, repOf lg d.log.toNat, ⟨#[]⟩, false⟩
def z3 (lg : List Lp) (d f : Dp) : Zv := ⟨kTs, d.id, repOf lg f.log.toNat, repOf lg d.log.toNat, true⟩
def zA (lg : List Lp) (d : Dp) : List Zv := if memB (grpOf lg d.log.toNat) d.to then [] else [z2 lg d]
def zB (lg : List Lp) (d f : Dp) : List Zv := if f.ts = d.ts ∧ f.to = d.to ∧ f.keys = d.keys then [] else [z3 lg d f]
def modelAt (lg : List Lp) (ds : List Dp) (dups : List Bool) (i : Nat) : List Zv := match ds[i]?, dups[i]? with
  | some d, some b => if b then [z1 lg d] else zA lg d ++ zB lg d (ds.getD (firstIdx (idsOf ds) i) d)
  | _, _ => []
def modelUp (lg : List Lp) (ds : List Dp) (dups : List Bool) : Nat → List Zv
  | 0 => []
  | i + 1 => modelUp lg ds dups i ++ modelAt lg ds dups i
theorem modelUp_len (lg : List Lp) (ds : List Dp) (dups : List Bool) : ∀ i, (modelUp lg ds dups i).length ≤ 2 * i
  | 0 => Nat.le_refl _
  | i + 1 => by
    have h1 := modelUp_len lg ds dups i
    have h2 : (modelAt lg ds dups i).length ≤ 2 := by
      unfold modelAt
      split
      · split
        · simp
        · have a1 : ∀ d, (zA lg d).length ≤ 1 := fun d => by unfold zA; split <;> simp
          have a2 : ∀ d f, (zB lg d f).length ≤ 1 := fun d f => by unfold zB; split <;> simp
          rw [List.length_append]
          exact Nat.add_le_add (a1 _) (a2 _ _)
      · simp
    rw [modelUp, List.length_append]
    omega

def delCells (q : Nat) (d : Dp) (t k : Sl) : Array Value := #[.int .i64 (q : Int), .string d.id, .int .u64 d.ts, .slice t.a t.n t.cap, .slice k.a k.n k.cap]
/-- Where the walk stands inside a round. -/
structure MSt (w wx : World) (zs : List Zv) (v : Value) (D q : Nat) (d : Dp) (t k : Sl) : Prop where
  own : wx.ownsRow w.heap.size 64 5 v zs.length (zs.flatMap zvC)
  below : Below w.heap.size w wx
  blk : Blk wx D 46 (delCells q d t k)
  ge : w.heap.size ≤ D
  ne : v.ownBlock ≠ some D
theorem MSt.heap {w wx wy : World} {zs : List Zv} {v : Value} {D q : Nat} {d : Dp} {t k : Sl} (h : MSt w wx zs v D q d t k) (hb : Below wx.heap.size wx wy) : MSt w wy zs v D q d t k :=
  ⟨ownsRow_below' h.own hb, ⟨hb.os.trans h.below.os, hb.tape.trans h.below.tape, hb.output.trans h.below.output, Nat.le_trans h.below.size hb.size, fun b hh => (hb.block b (Nat.lt_of_lt_of_le hh h.below.size)).trans (h.below.block b hh)⟩, h.blk.of_below hb, h.ge, h.ne⟩
theorem MSt.append {w wx w1 : World} {zs : List Zv} {v : Value} {D q : Nat} {d : Dp} {t k : Sl} (h : MSt w wx zs v D q d t k) (z : Zv) {wy : World} (hy : Below wx.heap.size wx wy) (hys : wy.heap.size = wx.heap.size + 1) {gg cap : Nat}
    (hown : w1.ownsRow w.heap.size 64 5 (.slice (some ⟨gg, 0, none⟩) (zs.length + 1) cap) (zs.length + 1) (zs.flatMap zvC ++ zvC z)) (hg : wy.grownBy w1 v.ownBlock) (hat : v.ownBlock = some gg ∨ gg = wx.heap.size + 1) :
    MSt w w1 (zs ++ [z]) (.slice (some ⟨gg, 0, none⟩) (zs.length + 1) cap) D q d t k := by
  have hB : Below w.heap.size w wy := ⟨hy.os.trans h.below.os, hy.tape.trans h.below.tape, hy.output.trans h.below.output, Nat.le_trans h.below.size hy.size, fun b hh => (hy.block b (Nat.lt_of_lt_of_le hh h.below.size)).trans (h.below.block b hh)⟩
  have hDl := h.blk.lt
  refine ⟨by simpa [List.flatMap_append] using hown, hB.grown hg hB.size (fun j hj => (h.own.lt j hj).1), (hg.block D (by omega) (fun e => h.ne e.symm)).trans ((hy.block D hDl).trans h.blk), h.ge, fun e => ?_⟩
  have e2 : gg = D := by simpa [Value.ownBlock] using e
  rcases hat with ha | ha
  · exact h.ne (by rw [ha, e2])
  · omega
theorem log_cells {w : World} {s : Sl} {lg : List Lp} (h : CellsAt w s 3 (logsC lg)) {q : Nat} {d : Lp} (hx : lg[q]? = some d) :
    w.cell? ⟨s.b, s.off + q * 3, none⟩ = some (.string d.path) ∧ w.cell? ⟨s.b, s.off + q * 3 + 1, none⟩ = some (.string d.rep) ∧ w.cell? ⟨s.b, s.off + q * 3 + 2, none⟩ = some (.string d.grp) := by
  obtain ⟨h1, h2, h3⟩ := logs_get hx
  exact ⟨h.cell _ _ h1, by rw [Nat.add_assoc]; exact h.cell _ _ h2, by rw [Nat.add_assoc]; exact h.cell _ _ h3⟩
theorem zv_news (wx : World) (z : Zv) (ty : TypeId) : ∀ j u, (zvC z)[j]? = some u → (wx.alloc (.cells #[.string z.kind, .string z.id, .string z.r1, .string z.r2, .bool z.two] ty)).cell? ((⟨wx.heap.size, 0, none⟩ : Addr).add j) = some u :=
  World.news_of_block (cs := #[.string z.kind, .string z.id, .string z.r1, .string z.r2, .bool z.two]) (t := ty) (fr := (0, 0)) (heap_alloc_new wx _)

set_option maxRecDepth 100000 in
set_option maxHeartbeats 1500000 in
theorem deliverModel_any (w : World) (sL sD sU : Sl) (lg : List Lp) (ds : List Dp) (dups : List Bool) (hL : CellsAt w sL 3 (logsC lg)) (hD : DsAt w sD ds) (hU : CellsAt w sU 1 (boolsC dups)) (hR : InRange sL.n ds) (hn2 : dups.length = ds.length) (hdl : ds.length ≤ 4096) (hfit : ∀ d, d ∈ ds → d.to.length ≤ 1048576 ∧ d.keys.length ≤ 1048576) :
    Calls Try.prog 28 #[.slice sL.a sL.n sL.cap, .slice sD.a sD.n sD.cap, .slice sU.a sU.n sU.cap] w fun e w' => ∃ s : Sl, e = .returned (.slice s.a s.n s.cap) ∧ CellsAt w' s 5 ((modelUp lg ds dups ds.length).flatMap zvC) ∧ Below w.heap.size w w' := by
  have hdn := hD.len
  have hun : sU.n = ds.length := by have := hU.len; simp [boolsC] at this; omega
  have hll := logs_len hL
  have hdb : sD.n ≤ 4096 := by omega
  obtain ⟨i64, hi64, hy0, hy1, hy2⟩ := info_parts info64
  go_enter Try.func28, Try.ntmps28
  go_wp2
  go_loopg [7, 8] sD.n (fun gk v i wr => ∃ k : Nat, k ≤ sD.n ∧ gk = sD.n - k ∧ i = .int .i64 k ∧ wr.ownsRow w.heap.size 64 5 v (modelUp lg ds dups k).length ((modelUp lg ds dups k).flatMap zvC) ∧ Below w.heap.size w wr)
  case atStart => exact ⟨0, Nat.zero_le _, rfl, rfl, World.ownsRow_nil _ _ _ _, Below.refl _ _⟩
  case round =>
    obtain ⟨k, hk, rfl, rfl, hW, hB⟩ := hrel
    by_cases hlt : k < sD.n
    · obtain ⟨d, t, kk, hd, hE0⟩ := hD.get hlt
      have hE := hE0.of_below (w' := wr) hB
      obtain ⟨q, hq⟩ : ∃ q : Nat, d.log = (q : Int) := ⟨d.log.toNat, by have := hR k d hd; omega⟩
      have hqn : q < sL.n := by have := hR k d hd; omega
      obtain ⟨x0, x1, x2, hx, -⟩ := logs_at hL hqn
      have hrep : repOf lg d.log.toNat = x1 := by simp [repOf, hq, hx]
      have hgrp : grpOf lg d.log.toNat = x2 := by simp [grpOf, hq, hx]
      obtain ⟨bb, hbb⟩ : ∃ b, dups[k]? = some b := ⟨dups[k]'(by omega), List.getElem?_eq_getElem _⟩
      have hmu := modelUp_len lg ds dups k
      have hst : Hid (modelUp lg ds dups (k + 1) = modelUp lg ds dups k ++ if bb then [z1 lg d] else zA lg d ++ zB lg d (ds.getD (firstIdx (idsOf ds) k) d)) := by
        show _ = _
        rw [modelUp, modelAt, hd, hbb]
      have hFr : ∃ fa fc, u7 = .slice fa (modelUp lg ds dups k).length fc := by
        obtain ⟨s', h1, h2, _⟩ := ownsRow_cells hW
        exact ⟨_, _, by rw [h1, h2]⟩
      obtain ⟨fa, fc, rfl⟩ := hFr
      have hlen : (modelUp lg ds dups k).length ≤ 8192 := by omega
      generalize modelUp lg ds dups k = Z at hst hW hlen hmu
      have aD := hD.at' (by omega)
      have aL := hL.at' (by omega)
      have aU := hU.at' (by omega)
      have hkI : (k : Int) < (sD.n : Int) := by omega
      have hkU : (k : Int) < (sU.n : Int) := by omega
      have hqI : (q : Int) < (sL.n : Int) := by omega
      have c0 := hE.c0
      rw [hq] at c0
      have c1 := hE.c1
      have c2 := hE.c2
      have c3 := hE.c3
      have c4 := hE.c4
      have hbs := hB.size
      have hlt' : Hid (k < sD.n) := hlt
      have hun' : Hid (sU.n = ds.length) := hun
      have hdn' : Hid (ds.length = sD.n) := hdn
      clear hun hdn
      go_upto_region 5 with fail
      go_cut [9] from 12 to 95 (fun s9 wx => s9 = .pointer (some ⟨wr.heap.size, 0, none⟩) ∧ MSt w wx Z (.slice fa Z.length fc) wr.heap.size q d t kk)
      case first =>
        go_wp2_with fail
        go_meet
        refine ⟨rfl, ownsRow_below' hW ((Below.refl _ wr).alloc (Nat.le_refl _) _), hB.alloc hB.size _, heap_alloc_new wr _, hbs, fun e => ?_⟩
        exact absurd (hW.lt _ e).2 (Nat.lt_irrefl _)
      case rest =>
      obtain ⟨rfl, hM⟩ := hcut
      clear c0 c1 c2 c3 c4 hW hB hE hbs
      obtain ⟨D, hDD⟩ : ∃ D, D = wr.heap.size := ⟨_, rfl⟩
      rw [← hDD] at hM ⊢
      clear hDD
      have b0 : wc.cell? ⟨D, 0, none⟩ = some (.int .i64 (q : Int)) := hM.blk.cell 0
      have b1 : wc.cell? ⟨D, 1, none⟩ = some (.string d.id) := hM.blk.cell 1
      obtain ⟨_, l1, l2⟩ := log_cells (hL.of_below hM.below) hx
      have cU := (hU.of_below hM.below).cell _ _ (bools_get hbb)
      simp only at l1 l2
      go_upto_region 7 with fail
      have hbs := hM.below.size
      cases bb with
      | true =>
        go_wp2_with (at_builtin; refine wpList_append_lies _ rfl _ _ 52 rfl w.heap.size 64 i64 _ 5 72 Try.underlying52 hi64 hy0 hy1 hy2 rfl (by omega) (.slice fa Z.length fc) Z.length _ rfl (hM.own.alloc _) ⟨wc.heap.size, 0, none⟩ 1 1 (zvC ⟨kDup, d.id, x1, ⟨#[]⟩, false⟩) rfl rfl (zv_news wc ⟨kDup, d.id, x1, ⟨#[]⟩, false⟩ 64) (by simp [zvC, Value.oneCell']) (by omega) (by unfold maxLen; omega) (by omega) (by simp; omega) (wc.heap.size + 1) (by simp) ?_; intro gg cap w1 hown1 hgrow hat hltg)
        have hM2 := hM.append ⟨kDup, d.id, x1, ⟨#[]⟩, false⟩ ((Below.refl _ wc).alloc (Nat.le_refl _) _) (by simp) hown1 hgrow hat
        rw [← aD, ← aL, ← aU]
        go_roundg (sD.n - (k + 1))
        case measure => have := hlt'.out; omega
        case rel =>
          have hz : modelUp lg ds dups (k + 1) = Z ++ [⟨kDup, d.id, x1, ⟨#[]⟩, false⟩] := by rw [hst.out]; simp [z1, hrep]
          exact ⟨k + 1, hlt'.out, rfl, by go_num, by rw [hz]; simpa using hM2.own, hM2.below⟩
      | false =>
        have b3 : wc.cell? ⟨D, 3, none⟩ = some (.slice t.a t.n t.cap) := hM.blk.cell 3
        have hto := (hE0.to.of_below hM.below)
        have htn : t.n ≤ 1099511627776 := by have := strs_len hE0.to; have := (hfit d (List.mem_of_getElem? hd)).1; omega
        have hkn : kk.n ≤ 1099511627776 := by have := keys_len hE0.keys; have := (hfit d (List.mem_of_getElem? hd)).2; omega
        obtain ⟨wA, rfl⟩ : ∃ wA : World, wA = wc := ⟨_, rfl⟩
        go_upto_region 9 with fail
        go_cut [48] from 12 to 95 (fun s48 wx => s48 = .bool (!memB x2 d.to) ∧ Below wA.heap.size wA wx)
        case first =>
          go_region_held3 (fun w' => w'.cell? ⟨D, 0, none⟩ = some (.int .i64 (q : Int)) ∧ w'.cell? ⟨D, 3, none⟩ = some (.slice t.a t.n t.cap) ∧ w'.cell? ⟨sL.b, sL.off + q * 3 + 2, none⟩ = some (.string x2)) (go_keep)
            ((go_at_call 36; refine (containsStr_any _ t d.to x2 htn (by exact hto.of_block rfl)).mono ?_; rintro e w2 ⟨rfl, rfl⟩))
          all_goals go_wp2_with fail
          all_goals (try rw [← aD]); (try rw [← aL]); (try rw [← aU])
          all_goals (go_meet; exact ⟨rfl, ⟨rfl, rfl, rfl, Nat.le_refl _, fun _ _ => rfl⟩⟩)
        case rest =>
        obtain ⟨rfl, hbl⟩ := hcut
        have hM2 := hM.heap hbl
        clear hM b0 b1 b3 l1 l2 cU hto hbl hbs
        have b1 : wc.cell? ⟨D, 1, none⟩ = some (.string d.id) := hM2.blk.cell 1
        have hbs := hM2.below.size
        have hzA : Hid (zA lg d = if memB x2 d.to then [] else [⟨kWrong, d.id, x1, ⟨#[]⟩, false⟩]) := by
          show _ = _
          rw [zA, z2, hrep, hgrp]
        generalize memB x2 d.to = mem at hzA ⊢
        go_upto_if 48 with fail
        go_cut [7] from 12 to 95 (fun s7 wx => MSt w wx (Z ++ zA lg d) s7 D q d t kk)
        case first =>
          cases mem with
          | true =>
            go_wp2_with fail
            (try rw [← aD]); (try rw [← aL]); (try rw [← aU])
            go_meet
            rw [hzA.out]
            simpa using hM2
          | false =>
            go_wp2_with (at_builtin; refine wpList_append_lies _ rfl _ _ 52 rfl w.heap.size 64 i64 _ 5 72 Try.underlying52 hi64 hy0 hy1 hy2 rfl (by omega) (.slice fa Z.length fc) Z.length _ rfl (hM2.own.alloc _) ⟨wc.heap.size, 0, none⟩ 1 1 (zvC ⟨kWrong, d.id, x1, ⟨#[]⟩, false⟩) rfl rfl (zv_news wc ⟨kWrong, d.id, x1, ⟨#[]⟩, false⟩ 64) (by simp [zvC, Value.oneCell']) (by omega) (by unfold maxLen; omega) (by omega) (by simp; omega) (wc.heap.size + 1) (by simp) ?_; intro gg cap w1 hown1 hgrow hat hltg)
            (try rw [← aD]); (try rw [← aL]); (try rw [← aU])
            go_meet
            rw [hzA.out]
            exact hM2.append ⟨kWrong, d.id, x1, ⟨#[]⟩, false⟩ ((Below.refl _ wc).alloc (Nat.le_refl _) _) (by simp) hown1 hgrow hat
        case rest =>
        clear hM2 b1 hbs hzA
        have hM3 := hcut
        clear hcut
        have hFr3 : ∃ fa fc, u7 = .slice fa (Z ++ zA lg d).length fc := by
          obtain ⟨s', h1, h2, _⟩ := ownsRow_cells hM3.own
          exact ⟨_, _, by rw [h1, h2]⟩
        obtain ⟨fa3, fc3, rfl⟩ := hFr3
        have hlen3 : (Z ++ zA lg d).length ≤ 8193 := by
          have : (zA lg d).length ≤ 1 := by unfold zA; split <;> simp
          rw [List.length_append]; omega
        have hst3 : Hid (modelUp lg ds dups (k + 1) = (Z ++ zA lg d) ++ zB lg d (ds.getD (firstIdx (idsOf ds) k) d)) := by
          show _ = _
          rw [hst.out]; simp
        clear hst
        generalize Z ++ zA lg d = Y at hM3 hlen3 hst3 ⊢
        -- the first line with this id
        obtain ⟨fi, hfi⟩ : ∃ fi, fi = firstIdx (idsOf ds) k := ⟨_, rfl⟩
        have hil : (idsOf ds).length = sD.n := by have := hdn'.out; simp [idsOf]; omega
        have hfl : fi ≤ k := by rw [hfi]; exact firstIdx_le _ (by omega)
        have hfn : fi < sD.n := by have := hlt'.out; omega
        obtain ⟨f, tf, kf, hf, hEf0⟩ := hD.get hfn
        have hgd : ds.getD (firstIdx (idsOf ds) k) d = f := by rw [← hfi]; simp [List.getD, hf]
        rw [hgd] at hst3
        obtain ⟨qf, hqf⟩ : ∃ q : Nat, f.log = (q : Int) := ⟨f.log.toNat, by have := hR fi f hf; omega⟩
        have hqfn : qf < sL.n := by have := hR fi f hf; omega
        obtain ⟨y0, y1, y2, hy, -⟩ := logs_at hL hqfn
        have hrepf : repOf lg f.log.toNat = y1 := by simp [repOf, hqf, hy]
        have hEf := hEf0.of_below (w' := wc) hM3.below
        have c0 := hEf.c0
        rw [hqf] at c0
        have c1 := hEf.c1
        have c2 := hEf.c2
        have c3 := hEf.c3
        have c4 := hEf.c4
        have hcall := firstIndex_any wc sD ds (by omega) (hD.of_below hM3.below) k hlt'.out
        rw [← hfi, aD] at hcall
        have hfI : (fi : Int) < (sD.n : Int) := by omega
        have hcall2 : Calls Try.prog 44 #[.slice (some ⟨sD.b, sD.off, none⟩) sD.n sD.cap, .int .i64 k] wc fun e w' => e = .returned (.int .i64 (fi : Int)) ∧ Below wc.heap.size wc w' ∧ w'.cell? ⟨sD.b, sD.off + fi * 5, none⟩ = some (.int .i64 (qf : Int)) ∧ w'.cell? ⟨sD.b, sD.off + fi * 5 + 1, none⟩ = some (.string f.id) ∧ w'.cell? ⟨sD.b, sD.off + fi * 5 + 2, none⟩ = some (.int .u64 f.ts) ∧ w'.cell? ⟨sD.b, sD.off + fi * 5 + 3, none⟩ = some (.slice tf.a tf.n tf.cap) ∧ w'.cell? ⟨sD.b, sD.off + fi * 5 + 4, none⟩ = some (.slice kf.a kf.n kf.cap) := by
          refine hcall.mono ?_
          rintro e w2 ⟨he, mm, rfl⟩
          have hb2 := below_drewN (Below.refl wc.heap.size wc) mm
          have h5 := hEf.five hb2
          rw [hqf] at h5
          exact ⟨he, hb2, h5⟩
        clear hfi hgd hcall c0 c1 c2 c3 c4
        obtain ⟨wB, rfl⟩ : ∃ wB : World, wB = wc := ⟨_, rfl⟩
        go_upto_region 11 with fail
        go_cut [11] from 12 to 95 (fun s11 wx => ∃ F, s11 = .pointer (some ⟨F, 0, none⟩) ∧ MSt w wx Y (.slice fa3 Y.length fc3) D q d t kk ∧ Blk wx F 46 (delCells qf f tf kf))
        case first =>
          go_wp2_with (go_at_call 44; refine hcall2.mono ?_; rintro e w2 ⟨rfl, hb2, c0, c1, c2, c3, c4⟩)
          (try rw [← aD]); (try rw [← aL]); (try rw [← aU])
          go_meet
          exact ⟨_, rfl, (hM3.heap hb2).heap ((Below.refl _ w2).alloc (Nat.le_refl _) _), heap_alloc_new w2 _⟩
        case rest =>
        obtain ⟨F, rfl, hM4, hFb⟩ := hcut
        clear hM3 hEf hcall2
        have f0 : wc.cell? ⟨F, 0, none⟩ = some (.int .i64 (qf : Int)) := hFb.cell 0
        have f2 : wc.cell? ⟨F, 2, none⟩ = some (.int .u64 f.ts) := hFb.cell 2
        have f3 : wc.cell? ⟨F, 3, none⟩ = some (.slice tf.a tf.n tf.cap) := hFb.cell 3
        have f4 : wc.cell? ⟨F, 4, none⟩ = some (.slice kf.a kf.n kf.cap) := hFb.cell 4
        have b1 : wc.cell? ⟨D, 1, none⟩ = some (.string d.id) := hM4.blk.cell 1
        have b2 : wc.cell? ⟨D, 2, none⟩ = some (.int .u64 d.ts) := hM4.blk.cell 2
        have b3 : wc.cell? ⟨D, 3, none⟩ = some (.slice t.a t.n t.cap) := hM4.blk.cell 3
        have b4 : wc.cell? ⟨D, 4, none⟩ = some (.slice kk.a kk.n kk.cap) := hM4.blk.cell 4
        have htfn : tf.n ≤ 1099511627776 := by have := strs_len hEf0.to; have := (hfit f (List.mem_of_getElem? hf)).1; omega
        have hkfn : kf.n ≤ 1099511627776 := by have := keys_len hEf0.keys; have := (hfit f (List.mem_of_getElem? hf)).2; omega
        have hc46 : ∀ (wx : World), Below wc.heap.size wc wx → Calls Try.prog 46 #[.slice tf.a tf.n tf.cap, .slice t.a t.n t.cap] wx fun e w' => e = .returned (.bool (decide (f.to = d.to))) ∧ ∃ m, w' = wx.drewN m := fun wx hx => strsEqual_any wx tf t f.to d.to htfn ((hEf0.to.of_below hM4.below).of_below hx) ((hE0.to.of_below hM4.below).of_below hx)
        have hc47 : ∀ (wx : World), Below wc.heap.size wc wx → Calls Try.prog 47 #[.slice kf.a kf.n kf.cap, .slice kk.a kk.n kk.cap] wx fun e w' => e = .returned (.bool (decide (f.keys = d.keys))) ∧ ∃ m, w' = wx.drewN m := fun wx hx => keysEqual_any wx kf kk f.keys d.keys hkfn ((hEf0.keys.of_below hM4.below).of_below hx) ((hE0.keys.of_below hM4.below).of_below hx)
        obtain ⟨wC, rfl⟩ : ∃ wC : World, wC = wc := ⟨_, rfl⟩
        have hzB : Hid (zB lg d f = if decide (f.ts = d.ts ∧ f.to = d.to ∧ f.keys = d.keys) then [] else [⟨kTs, d.id, y1, x1, true⟩]) := by
          show _ = _
          rw [zB, z3, hrep, hrepf]
          by_cases h : f.ts = d.ts ∧ f.to = d.to ∧ f.keys = d.keys
          · rw [if_pos h, if_pos (decide_eq_true h)]
          · rw [if_neg h, if_neg (by simpa using h)]
        go_upto_region 12 with fail
        go_cut [82] from 12 to 95 (fun s82 wx => s82 = .bool (!decide (f.ts = d.ts ∧ f.to = d.to ∧ f.keys = d.keys)) ∧ Below wC.heap.size wC wx)
        case first =>
          by_cases e1 : f.ts = d.ts
          · have q1 : (f.ts == d.ts) = true := beq_iff_eq.2 e1
            by_cases e2 : f.to = d.to
            · have hd2 : decide (f.to = d.to) = true := decide_eq_true e2
              rw [hd2] at hc46
              by_cases e3 : f.keys = d.keys
              · have hd3 : decide (f.keys = d.keys) = true := decide_eq_true e3
                rw [hd3] at hc47
                have hres : Hid (decide (f.ts = d.ts ∧ f.to = d.to ∧ f.keys = d.keys) = true) := decide_eq_true ⟨e1, e2, e3⟩
                clear e2 e3 hd2 hd3
                go_wp2_with (first | (go_at_call 46; refine (hc46 _ (by exact Below.refl _ _)).mono ?_; rintro e w2 ⟨rfl, mm, rfl⟩) | (go_at_call 47; refine (hc47 _ (by exact below_drewN (Below.refl _ _) _)).mono ?_; rintro e w2 ⟨rfl, mm2, rfl⟩))
                (try rw [← aD]); (try rw [← aL]); (try rw [← aU])
                go_meet
                exact ⟨by rw [hres.out]; rfl, ⟨rfl, rfl, rfl, Nat.le_refl _, fun _ _ => rfl⟩⟩
              · have hd3 : decide (f.keys = d.keys) = false := decide_eq_false e3
                rw [hd3] at hc47
                have hres : Hid (decide (f.ts = d.ts ∧ f.to = d.to ∧ f.keys = d.keys) = false) := decide_eq_false (fun h => e3 h.2.2)
                clear e2 e3 hd2 hd3
                go_wp2_with (first | (go_at_call 46; refine (hc46 _ (by exact Below.refl _ _)).mono ?_; rintro e w2 ⟨rfl, mm, rfl⟩) | (go_at_call 47; refine (hc47 _ (by exact below_drewN (Below.refl _ _) _)).mono ?_; rintro e w2 ⟨rfl, mm2, rfl⟩))
                (try rw [← aD]); (try rw [← aL]); (try rw [← aU])
                go_meet
                exact ⟨by rw [hres.out]; rfl, ⟨rfl, rfl, rfl, Nat.le_refl _, fun _ _ => rfl⟩⟩
            · have hd2 : decide (f.to = d.to) = false := decide_eq_false e2
              rw [hd2] at hc46
              have hres : Hid (decide (f.ts = d.ts ∧ f.to = d.to ∧ f.keys = d.keys) = false) := decide_eq_false (fun h => e2 h.2.1)
              clear e2 hd2
              go_wp2_with (go_at_call 46; refine (hc46 _ (by exact Below.refl _ _)).mono ?_; rintro e w2 ⟨rfl, mm, rfl⟩)
              (try rw [← aD]); (try rw [← aL]); (try rw [← aU])
              go_meet
              exact ⟨by rw [hres.out]; rfl, ⟨rfl, rfl, rfl, Nat.le_refl _, fun _ _ => rfl⟩⟩
          · have q1 : (f.ts == d.ts) = false := beq_eq_false_iff_ne.2 e1
            have hres : Hid (decide (f.ts = d.ts ∧ f.to = d.to ∧ f.keys = d.keys) = false) := decide_eq_false (fun h => e1 h.1)
            have q2 : (f.ts != d.ts) = true := bne_iff_ne.2 e1
            have q3 : decide (f.ts = d.ts) = false := decide_eq_false e1
            go_wp2_with fail
            (try rw [← aD]); (try rw [← aL]); (try rw [← aU])
            go_meet
            exact ⟨by rw [hres.out]; rfl, ⟨rfl, rfl, rfl, Nat.le_refl _, fun _ _ => rfl⟩⟩
        case rest =>
        obtain ⟨rfl, hbl⟩ := hcut
        have hM5 := hM4.heap hbl
        have hFb5 := hFb.of_below hbl
        clear hM4 hFb f0 f2 f3 f4 b1 b2 b3 b4 hc46 hc47 hbl
        have f0 : wc.cell? ⟨F, 0, none⟩ = some (.int .i64 (qf : Int)) := hFb5.cell 0
        have b1 : wc.cell? ⟨D, 1, none⟩ = some (.string d.id) := hM5.blk.cell 1
        obtain ⟨_, l1, -⟩ := log_cells (hL.of_below hM5.below) hy
        simp only at l1
        have hbs := hM5.below.size
        have hqfI : (qf : Int) < (sL.n : Int) := by omega
        generalize decide (f.ts = d.ts ∧ f.to = d.to ∧ f.keys = d.keys) = same at hzB ⊢
        go_upto_if 82 with fail
        cases same with
        | true =>
          go_wp2_with fail
          (try rw [← aD]); (try rw [← aL]); (try rw [← aU])
          go_roundg (sD.n - (k + 1))
          case measure => have := hlt'.out; omega
          case rel =>
            have hz : modelUp lg ds dups (k + 1) = Y := by rw [hst3.out, hzB.out]; simp
            exact ⟨k + 1, hlt'.out, rfl, by go_num, by rw [hz]; exact hM5.own, hM5.below⟩
        | false =>
          go_upto_region 13 with fail
          go_region_law ((refine step_append_lies _ (by rfl) _ _ 52 (by rfl) w.heap.size 64 i64 _ 5 72 Try.underlying52 hi64 hy0 hy1 hy2 rfl (by omega) (.slice fa3 Y.length fc3) Y.length _ (by rfl) ((hM5.own.alloc _).drew) ⟨wc.heap.size, 0, none⟩ 1 1 (zvC ⟨kTs, d.id, y1, x1, true⟩) (by rfl) (by rfl) (zv_news wc ⟨kTs, d.id, y1, x1, true⟩ 64) (by simp [zvC, Value.oneCell']) (by omega) (by unfold maxLen; omega) (by omega) (by simp; omega) (wc.heap.size + 1) (by simp) ?_; intro gg cap w1 hown1 hgrow hat hltg))
          all_goals go_wp2_with fail
          all_goals
            have hM6 := hM5.append ⟨kTs, d.id, y1, x1, true⟩ ((Below.refl _ wc).alloc (Nat.le_refl _) _).drew (by show (World.alloc _ _).heap.size = _; simp) hown1 hgrow hat
            (try rw [← aD]); (try rw [← aL]); (try rw [← aU])
            go_roundg (sD.n - (k + 1))
            case measure => have := hlt'.out; omega
            case rel =>
              have hz : modelUp lg ds dups (k + 1) = Y ++ [⟨kTs, d.id, y1, x1, true⟩] := by rw [hst3.out, hzB.out]; simp
              exact ⟨k + 1, hlt'.out, rfl, by go_num, by rw [hz]; simpa using hM6.own, hM6.below⟩
    · obtain rfl : k = sD.n := by omega
      obtain ⟨s', h1, h2, h3⟩ := ownsRow_cells hW
      rw [← hdn] at h3
      have hfin : ∃ s : Sl, Ending.returned u7 = .returned (.slice s.a s.n s.cap) ∧ CellsAt wr s 5 ((modelUp lg ds dups ds.length).flatMap zvC) ∧ Below w.heap.size w wr := ⟨s', by rw [h1], h3, hB⟩
      clear h1 h2 h3 hW hL hD hU
      go_wp2
      go_ret
      exact hfin

end Go.Proofs.Qxb6601949a.Sc
