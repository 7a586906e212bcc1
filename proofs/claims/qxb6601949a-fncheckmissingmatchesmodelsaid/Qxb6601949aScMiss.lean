/- THE SCRIPT LAWS: checkMissing: the walk. -/
import Derived.Test.Qxb6601949aScMissA
import Derived.Test.Qxb6601949aScRun
import Derived.Deep.CutRange
namespace Go.Proofs.Qxb6601949a.Sc
open Go.RowKit Go.Maps
set_option linter.unusedVariables false
set_option linter.unusedSimpArgs false

theorem zero35 (w : World) : (zeroValue 35).run Try.prog w = .ok (.slice none 0 0) w := by kernel_rfl

/-- WHAT checkMissing LEAVES. -/
def MissPost (w : World) (T : Nat → Nat) (B : Nat) (g : G) (e : Ending) (w' : World) : Prop :=
  e = .returned (.tuple #[]) ∧ ∃ T' a v, Keep0 T T' w w' ∧ St w' T' B { g with vios := a, vioV := v } ∧ a.map absV = g.vios.map absV ++ missUp g.desc g.cr g.pl (ps g).msgs g.msgs.length

/-- Where the walk stands behind the first loop. -/
structure MI (w0 wr : World) (T0 T : Nat → Nat) (B : Nat) (g : G) (a : List Vio) (v : Value) (M0 n : Nat) (f : ByteArray → Option Value) (vs : List Vp) : Prop where
  keep : Keep0 T0 T w0 wr
  st : St wr T B { g with vios := a, vioV := v }
  vios : a.map absV = vs
  bg : BG wr T M0 g.L (rowOf g.desc g.cr g.desc.length) n f

theorem MI.grow {w0 wr wx : World} {T0 T : Nat → Nat} {B : Nat} {g : G} {a : List Vio} {v : Value} {M0 n : Nat} {f : ByteArray → Option Value} {vs : List Vp} (h : MI w0 wr T0 T B g a v M0 n f vs) (hb : Below wr.heap.size wr wx) : ∃ T', (∀ b, T' b = if b < wr.heap.size then T b else 0) ∧ MI w0 wx T0 T' B g a v M0 n f vs := by
  obtain ⟨T', K, hT, S⟩ := h.st.below hb
  have K0 : Keep0 T T' wr wx := ⟨K.os, K.tape, K.output, K.size, K.tag, fun b hbb _ => hb.block b hbb⟩
  exact ⟨T', hT, h.keep.trans K0, S, h.vios, h.bg.keep0 K0⟩
/-- The message's copy. -/
def EB (w : World) (T : Nat → Nat) (L : Nat → Nat) (E : Nat) (x : Msg) : Prop := Blk w E 88 (msgCells L x).toArray ∧ T E = 0
theorem EB.keep0 {w w' : World} {T T' : Nat → Nat} {L : Nat → Nat} {E : Nat} {x : Msg} (h : EB w T L E x) (k : Keep0 T T' w w') : EB w' T' L E x :=
  ⟨(k.block E h.1.lt h.2).trans h.1, (k.tag E h.1.lt).trans h.2⟩
theorem msg_cells {w : World} {T : Nat → Nat} {B : Nat} {g : G} (S : St w T B g) {b cap m : Nat} {x : Msg} (hv : g.msgV = .slice (some ⟨b, 0, none⟩) g.msgs.length cap) (hx : g.msgs[m]? = some x) :
    w.cell? ⟨b, m * 5, none⟩ = some (.string x.id) ∧ w.cell? ⟨b, m * 5 + 1, none⟩ = some (.int .u64 x.ts) ∧ w.cell? ⟨b, m * 5 + 2, none⟩ = some (.slice x.tos.a x.tos.n x.tos.cap) ∧ w.cell? ⟨b, m * 5 + 3, none⟩ = some (.slice x.kes.a x.kes.n x.kes.cap) ∧ w.cell? ⟨b, m * 5 + 4, none⟩ = some (.pointer (some ⟨g.L x.frm, 0, none⟩)) := by
  obtain ⟨a', b', c', hv', hs⟩ := S.msgs.slice
  obtain ⟨rfl, _, hc⟩ := hs (by have := get_lt hx; omega)
  rw [hv] at hv'
  have : b = b' := by simp at hv'; exact hv'.1
  subst this
  have gg := flat_get (msgCells g.L) 5 (fun _ => rfl) g.msgs m x hx
  exact ⟨hc _ _ ((gg 0 (by omega)).trans rfl), hc _ _ ((gg 1 (by omega)).trans rfl), hc _ _ ((gg 2 (by omega)).trans rfl), hc _ _ ((gg 3 (by omega)).trans rfl), hc _ _ ((gg 4 (by omega)).trans rfl)⟩
theorem missK_snoc (desc : List Lp) (pl : Nat → List Nat) (id : ByteArray) (m : Nat) (ks : List Nat) (k : Nat) : missK desc pl id m (ks ++ [k]) = missK desc pl id m ks ++ miss1 desc pl id m k := by simp [missK, List.flatMap_append]
theorem missG_snoc (desc : List Lp) (cr : List ByteArray) (pl : Nat → List Nat) (id : ByteArray) (m : Nat) (gs : List ByteArray) (y : ByteArray) : missG desc cr pl id m (gs ++ [y]) = missG desc cr pl id m gs ++ missK desc pl id m (rowOf desc cr desc.length y) := by simp [missG, List.flatMap_append]
theorem news_one (w : World) (u : Value) (ty : TypeId) : ∀ j v, [u][j]? = some v → (w.alloc (.cells #[u] ty)).cell? ((⟨w.heap.size, 0, none⟩ : Addr).add j) = some v :=
  World.news_of_block (cs := #[u]) (t := ty) (fr := (0, 0)) (heap_alloc_new w _)

set_option maxRecDepth 100000 in
set_option maxHeartbeats 1500000 in
theorem checkMissing_any (w : World) (T : Nat → Nat) (B : Nat) (g : G) (S : St w T B g) (R : Nat) (hR : g.R = R) (hdl : g.desc.length ≤ 256) (hll : g.lss.n = g.desc.length) (hcl : g.cr.length ≤ 4096) (hml : g.msgs.length ≤ 4096) (hvl : g.vios.length ≤ 8192)
    (hgs : ∀ l, l ∈ g.desc → l.grp.size ≤ 1048576) (hto : ∀ m, m ∈ g.msgs → m.to.length ≤ 1048576 ∧ ∀ x, x ∈ m.to → x.size ≤ 1048576) (hpl : ∀ k, (g.pl k).length ≤ 4096) (hpx : ∀ k x, x ∈ g.pl k → x ≤ 4096) :
    Calls Try.prog 50 #[.pointer (some ⟨R, 0, none⟩)] w fun e w' => MissPost w T B g e w' := by
  subst hR
  have hmm := @run_makeMap Try.prog
  obtain ⟨i69, hi69, hy0, hy1, hy2⟩ := info_parts info69
  have H0 := BGo.start w g.L
  have hS0 := S.below H0.below
  have r2 : (w.alloc (.map #[] 0)).cell? ⟨g.R, 2, none⟩ = some (.slice g.lss.a g.lss.n g.lss.cap) := (H0.below.cell (p := ⟨g.R, 2, none⟩) S.run.lt).trans (S.run.cell 2)
  have hlb : g.lss.n ≤ 256 := by omega
  have hRlt := S.run.lt
  have hll' : Hid (g.lss.n = g.desc.length) := hll
  clear hll
  clear hS0
  go_enter Try.func50, Try.ntmps50
  go_wp2_with fail
  clear hmm r2
  go_loopg [19] g.lss.n (fun gk i wr => ∃ (k n : Nat) (f : ByteArray → Option Value), k ≤ g.lss.n ∧ gk = g.lss.n - k ∧ i = .int .i64 k ∧ BGo w wr g.L (rowOf g.desc g.cr k) k n f)
  case atStart => exact ⟨0, 0, _, Nat.zero_le _, rfl, rfl, H0.mono (by funext x; simp [rowOf]) (Nat.le_refl _)⟩
  case round =>
    obtain ⟨k, n, f, hk, rfl, rfl, hG⟩ := hrel
    clear H0
    by_cases hlt : k < g.lss.n
    · have hkd : k < g.desc.length := by have := hll'.out; omega
      obtain ⟨dq, hdq⟩ : ∃ dq, g.desc[k]? = some dq := ⟨_, List.getElem?_eq_getElem hkd⟩
      obtain ⟨T1, _, _, S1⟩ := S.below hG.below
      have hLb := S1.lblk k dq hdq
      have hlsc := S1.logs.cells.cell k (.pointer (some ⟨g.L k, 0, none⟩)) (by simp [ptrsC, hkd])
      have hla := S1.logs.cells.at' (by omega)
      have c1 : wr.cell? ⟨g.R, 1, none⟩ = some (.slice g.crs.a g.crs.n g.crs.cap) := S1.run.cell 1
      have l1 : wr.cell? ⟨g.L k, 1, none⟩ = some (.string dq.rep) := hLb.cell 1
      have hcon : ∀ wx : World, wx.heap = wr.heap → Calls Try.prog 56 #[.slice g.crs.a g.crs.n g.crs.cap, .string dq.rep] wx fun e w' => e = .returned (.bool (memB dq.rep g.cr)) ∧ w' = wx := fun wx hx =>
        contains_any wx g.crs g.cr dq.rep (by have := S1.crashed.cells.len; rw [strsC_length] at this; omega) (S1.crashed.cells.of_block (by rw [hx]))
      have hrep : repOf g.desc k = dq.rep := by simp [repOf, hdq]
      have hgrp : grpOf g.desc k = dq.grp := by simp [grpOf, hdq]
      have hkI : (k : Int) < (g.lss.n : Int) := by omega
      have hlt' : Hid (k < g.lss.n) := hlt
      obtain ⟨wA, rfl⟩ : ∃ wA : World, wA = wr := ⟨_, rfl⟩
      go_upto_region 4 with fail
      go_cut [33] from 20 to 48 (fun s33 wx => s33 = .bool (!memB dq.rep g.cr) ∧ Below wA.heap.size wA wx)
      case first =>
        go_region_held3 (fun w' => w'.cell? ⟨g.R, 1, none⟩ = some (.slice g.crs.a g.crs.n g.crs.cap) ∧ w'.cell? ⟨g.L k, 1, none⟩ = some (.string dq.rep)) (go_keep)
          ((go_at_call 56; refine (hcon _ (by exact rfl)).mono ?_; rintro e w2 ⟨rfl, rfl⟩))
        all_goals go_wp2_with fail
        all_goals (try rw [← hla])
        all_goals (go_meet; exact ⟨rfl, ⟨rfl, rfl, rfl, Nat.le_refl _, fun _ _ => rfl⟩⟩)
      case rest =>
      obtain ⟨rfl, hbl⟩ := hcut
      have hG2 := hG.heap hbl
      clear hG hbl S1 hLb hlsc c1 l1 hcon
      obtain ⟨T2, _, _, S2⟩ := S.below hG2.below
      have hLb2 := S2.lblk k dq hdq
      have l2 : wc.cell? ⟨g.L k, 2, none⟩ = some (.string dq.grp) := hLb2.cell 2
      go_upto_if 33 with fail
      cases hmem : memB dq.rep g.cr with
      | true =>
        have hno : ∀ x, inRow g.desc g.cr x k = false := fun x => by unfold inRow aliveAt; rw [hrep, hmem]; simp
        clear S2 hLb2
        go_wp2_with fail
        (try rw [← hla])
        go_roundg (g.lss.n - (k + 1))
        case measure => have := hlt'.out; omega
        case rel => exact ⟨k + 1, n, f, hlt'.out, rfl, by go_num, hG2.mono (by funext x; rw [rowOf_succ, hno]; simp) (by omega)⟩
      | false =>
        have hyes : ∀ x, inRow g.desc g.cr x k = decide (dq.grp = x) := fun x => by unfold inRow aliveAt; rw [hrep, hgrp, hmem]; simp
        have hOwn := hG2.value dq.grp
        have hgz : dq.grp.size ≤ 1048576 := hgs dq (List.mem_of_getElem? hdq)
        have hlk : ∀ x : World, x.heap[w.heap.size]? = wc.heap[w.heap.size]? → (Instr.lookup 110 (.map (some w.heap.size)) (.string dq.grp) false).run Try.prog x = .ok ((f dq.grp).getD (.slice none 0 0)) x := fun x hx =>
          (hG2.map.of_block hx).look Try.underlying110 (zero35 x) dq.grp (by unfold maxLen; omega)
        have hM0 := hG2.map.lt
        have hM0ne : some w.heap.size ≠ ((f dq.grp).getD (.slice none 0 0)).ownBlock := fun e => by have := (hOwn.lt _ e.symm).1; omega
        have hLlt : g.L k < w.heap.size := (S.lblk k dq hdq).lt
        have hLne : some (g.L k) ≠ ((f dq.grp).getD (.slice none 0 0)).ownBlock := fun e => by have := (hOwn.lt _ e.symm).1; omega
        have hLlt2 : g.L k < wc.heap.size := hLb2.lt
        have hrl := rowOf_len g.desc g.cr k dq.grp
        have hle := hG2.le
        obtain ⟨v0, hv0⟩ : ∃ v0, v0 = (f dq.grp).getD (.slice none 0 0) := ⟨_, rfl⟩
        rw [← hv0] at hOwn hlk hM0ne hLne
        have hv0' : Hid (v0 = (f dq.grp).getD (.slice none 0 0)) := hv0
        have hLk1 := hlk wc.drew rfl
        have hLk2 := hlk (wc.alloc (.cells #[.pointer (some ⟨g.L k, 0, none⟩)] 69)).drew (heap_alloc_old wc _ hM0)
        have hrl' : Hid ((rowOf g.desc g.cr k dq.grp).length ≤ k) := hrl
        have hwcs : w.heap.size + 1 ≤ wc.heap.size := hM0
        have n1 : wc.heap.size ≠ g.L k := by omega
        clear hv0 hlk S2 hLb2
        have hrl3 : (rowOf g.desc g.cr k dq.grp).length ≤ 256 := by omega
        obtain ⟨W, hWd⟩ : ∃ W, W = rowOf g.desc g.cr k dq.grp := ⟨_, rfl⟩
        have hWd' : Hid (W = rowOf g.desc g.cr k dq.grp) := hWd
        rw [← hWd] at hOwn hrl3
        clear hWd hrl
        go_upto_region 5 with fail
        go_region_law ((refine step_append_lies _ (by rfl) _ _ 35 (by rfl) (w.heap.size + 1) 69 i69 _ 1 8 Try.underlying35 hi69 hy0 hy1 hy2 rfl (by omega) v0 W.length _ (by rfl) ((hOwn.alloc _).drew) ⟨wc.heap.size, 0, none⟩ 1 1 [.pointer (some ⟨g.L k, 0, none⟩)] (by rfl) (by rfl) (news_one wc _ 69) (by simp [Value.oneCell']) (by omega) (by unfold maxLen; omega) (by omega) (by show _ ≤ (World.alloc _ _).heap.size; simp; omega) (wc.heap.size + 1) (by show (World.alloc _ _).heap.size = _; simp) ?_; intro gg cap w1 hown1 hgrow hat hltg; have hMp1 : MapAt w1 w.heap.size n f := hG2.map.of_block ((hgrow.block w.heap.size (by show _ < (World.alloc _ _).heap.size; simp; omega) hM0ne).trans (heap_alloc_old wc _ hM0)); have l2' : w1.cell? ⟨g.L k, 2, none⟩ = some (.string dq.grp) := (hgrow.cell_far ⟨g.L k, 2, none⟩ (by show _ < (World.alloc _ _).heap.size; simp; omega) hLne).trans ((World.cell?_of_block (heap_alloc_old wc _ hLlt2)).trans l2); obtain ⟨w2, hr2, hM2, hg2⟩ := hMp1.update Try.underlying110 (by unfold maxLen; omega) dq.grp (by unfold maxLen; omega) (.slice (some ⟨gg, 0, none⟩) (W.length + 1) cap)))
        all_goals go_wp2_with fail
        all_goals
          (try rw [← hla])
          go_roundg (g.lss.n - (k + 1))
          case measure => have := hlt'.out; omega
          case rel =>
            have e1 := hv0'.out
            have e2 := hWd'.out
            subst e1 e2
            have h9 := hG2.step dq.grp k (wy := (wc.alloc (.cells #[.pointer (some ⟨g.L k, 0, none⟩)] 69)).drew) ((Below.refl _ wc).alloc (Nat.le_refl _) _).drew (by show (World.alloc _ _).heap.size = _; simp) hown1 hgrow hat hM2 hg2
            refine ⟨k + 1, n + 1, _, hlt'.out, rfl, by go_num, h9.mono ?_ (Nat.le_refl _)⟩
            funext y
            rw [rowOf_succ, hyes]
            by_cases e : y = dq.grp
            · subst e; simp
            · rw [if_neg e, if_neg (by simpa using fun h => e h.symm), List.append_nil]
    · obtain rfl : k = g.lss.n := by omega
      have hG1 := hG.mono (rows' := rowOf g.desc g.cr g.desc.length) (by rw [hll'.out]) (Nat.le_refl _)
      obtain ⟨T1, K1, hT1, S1⟩ := S.below hG1.below
      have K01 : Keep0 T T1 w wr := ⟨K1.os, K1.tape, K1.output, K1.size, K1.tag, fun b hbb _ => hG1.below.block b hbb⟩
      have hI1 : MI w wr T T1 B g g.vios g.vioV w.heap.size n f (g.vios.map absV) := ⟨K01, S1, rfl, hG1.made hT1⟩
      obtain ⟨ma, mb, mc, hmv, hms⟩ := S1.msgs.slice
      have r3 : wr.cell? ⟨g.R, 3, none⟩ = some (.slice ma g.msgs.length mc) := by rw [← hmv]; exact S1.run.cell 3
      have hms' : 0 < g.msgs.length → ma = some ⟨mb, 0, none⟩ := fun h => (hms h).1
      have hmv' : Hid (g.msgV = .slice ma g.msgs.length mc) := hmv
      clear hG hG1 S1 hms hmv K1 K01
      go_wp2_with fail
      go_loopg [54] g.msgs.length (fun gk i wr => ∃ (m : Nat) (T' : Nat → Nat) (a : List Vio) (v : Value), m ≤ g.msgs.length ∧ gk = g.msgs.length - m ∧ i = .int .i64 m ∧ MI w wr T T' B g a v w.heap.size n f (g.vios.map absV ++ missUp g.desc g.cr g.pl (ps g).msgs m))
      case atStart => exact ⟨0, T1, g.vios, g.vioV, Nat.zero_le _, rfl, rfl, by simpa [missUp] using hI1⟩
      case round =>
        obtain ⟨m, T2, a, v, hm, rfl, rfl, hI⟩ := hrel
        clear hI1 r3
        by_cases hlt : m < g.msgs.length
        · obtain ⟨x, hx⟩ : ∃ x, g.msgs[m]? = some x := ⟨_, List.getElem?_eq_getElem hlt⟩
          have hma := hms' (by omega)
          subst hma
          obtain ⟨c0, c1, c2, c3, c4⟩ := msg_cells hI.st hmv'.out hx
          have hmI : (m : Int) < (g.msgs.length : Int) := by omega
          have hlt' : Hid (m < g.msgs.length) := hlt
          have hxx : Hid (g.msgs[m]? = some x) := hx
          have hxto := hto x (List.mem_of_getElem? hx)
          obtain ⟨wB, rfl⟩ : ∃ wB : World, wB = wr := ⟨_, rfl⟩
          clear hms' hx
          go_upto_region 9 with fail
          go_cut [5, 6] from 55 to 96 (fun s5 s6 wx => s5 = .int .i64 (m : Int) ∧ ∃ (E : Nat) (T3 : Nat → Nat), s6 = .pointer (some ⟨E, 0, none⟩) ∧ MI w wx T T3 B g a v w.heap.size n f (g.vios.map absV ++ missUp g.desc g.cr g.pl (ps g).msgs m) ∧ EB wx T3 g.L E x)
          case first =>
            go_wp2_with fail
            go_meet
            obtain ⟨T3, hT3, hI3⟩ := hI.grow ((Below.refl _ wB).alloc (Nat.le_refl _) _)
            exact ⟨rfl, wB.heap.size, T3, rfl, hI3, heap_alloc_new wB _, by rw [hT3, if_neg (by omega)]⟩
          case rest =>
          obtain ⟨rfl, E, T3, rfl, hI3, hE3⟩ := hcut
          clear hI c0 c1 c2 c3 c4
          have e2 : wc.cell? ⟨E, 2, none⟩ = some (.slice x.tos.a x.tos.n x.tos.cap) := hE3.1.cell 2
          have htl : x.to.length = x.tos.n := by have := (hI3.st.msgI x (List.mem_of_getElem? hxx.out)).1.cells.len; rw [strsC_length] at this; omega
          have htn : x.tos.n ≤ 1048576 := by omega
          have htl' : Hid (x.to.length = x.tos.n) := htl
          clear htl
          go_wp2_with fail
          go_loopg [63] x.tos.n (fun gk i wr => ∃ (j : Nat) (T' : Nat → Nat) (a : List Vio) (v : Value), j ≤ x.tos.n ∧ gk = x.tos.n - j ∧ i = .int .i64 j ∧ MI w wr T T' B g a v w.heap.size n f (g.vios.map absV ++ missUp g.desc g.cr g.pl (ps g).msgs m ++ missG g.desc g.cr g.pl x.id m (x.to.take j)) ∧ EB wr T' g.L E x)
          case atStart => exact ⟨0, T3, a, v, Nat.zero_le _, rfl, rfl, by simpa [missG] using hI3, hE3⟩
          case round =>
            obtain ⟨j, T4, a4, v4, hj, rfl, rfl, hI4, hE4⟩ := hrel
            clear hI3 hE3 e2
            by_cases hjl : j < x.tos.n
            · obtain ⟨y, hy⟩ : ∃ y, x.to[j]? = some y := ⟨x.to[j]'(by rw [htl'.out]; exact hjl), List.getElem?_eq_getElem _⟩
              have hIt := (hI4.st.msgI x (List.mem_of_getElem? hxx.out)).1
              have hat := hIt.cells.at' (by omega)
              have ct := hIt.cells.cell _ _ (strs_get hy)
              have hys : y.size ≤ 1048576 := hxto.2 y (List.mem_of_getElem? hy)
              obtain ⟨s, hsv, hsn, hsI⟩ := hI4.bg.row y
              have hlk : (Instr.lookup 110 (.map (some w.heap.size)) (.string y) false).run Try.prog wr = .ok (.slice s.a s.n s.cap) wr := by rw [← hsv]; exact hI4.bg.map.look Try.underlying110 (zero35 wr) y (by unfold maxLen; omega)
              have hrl := rowOf_len g.desc g.cr g.desc.length y
              have hsb : s.n ≤ 256 := by omega
              have hjI : (j : Int) < (x.tos.n : Int) := by omega
              have hjl' : Hid (j < x.tos.n) := hjl
              have hsn' : Hid (s.n = (rowOf g.desc g.cr g.desc.length y).length) := hsn
              have hyy : Hid (x.to[j]? = some y) := hy
              clear hIt hsv hy hsn hrl
              go_wp2_with fail
              go_loopg [71] s.n (fun gk i wr => ∃ (c : Nat) (T' : Nat → Nat) (a : List Vio) (v : Value), c ≤ s.n ∧ gk = s.n - c ∧ i = .int .i64 c ∧ MI w wr T T' B g a v w.heap.size n f (g.vios.map absV ++ missUp g.desc g.cr g.pl (ps g).msgs m ++ missG g.desc g.cr g.pl x.id m (x.to.take j) ++ missK g.desc g.pl x.id m ((rowOf g.desc g.cr g.desc.length y).take c)) ∧ EB wr T' g.L E x ∧ Imm wr T' s 1 (ptrRow g.L (rowOf g.desc g.cr g.desc.length y)))
              case atStart => exact ⟨0, T4, a4, v4, Nat.zero_le _, rfl, rfl, by simpa [missK] using hI4, hE4, hsI⟩
              case round =>
                obtain ⟨c, T5, a5, v5, hc, rfl, rfl, hI5, hE5, hs5⟩ := hrel
                clear hI4 hE4 hsI hlk ct
                by_cases hcl : c < s.n
                · obtain ⟨k, hk⟩ : ∃ k, (rowOf g.desc g.cr g.desc.length y)[c]? = some k := ⟨_, List.getElem?_eq_getElem (by rw [← hsn'.out]; exact hcl)⟩
                  have hkd : k < g.desc.length := rowOf_lt (List.mem_of_getElem? hk)
                  obtain ⟨dq, hdq⟩ : ∃ dq, g.desc[k]? = some dq := ⟨_, List.getElem?_eq_getElem hkd⟩
                  have hLb := hI5.st.lblk k dq hdq
                  have hrc := hs5.cells.cell c (.pointer (some ⟨g.L k, 0, none⟩)) (by simp [ptrRow, hk])
                  have has := hs5.cells.at' (by omega)
                  have hpc := place_any wr (g.L k) (g.ordV k) dq T5 (7 + 3 * k) (g.plV k) (g.pl k) hLb (hI5.st.pl k hkd) (by have := hpl k; omega) (fun z hz => by have := hpx k z hz; omega) m (by omega)
                  have htk : Hid ((rowOf g.desc g.cr g.desc.length y).take (c + 1) = (rowOf g.desc g.cr g.desc.length y).take c ++ [k]) := by show _ = _; rw [List.take_add_one, hk]; rfl
                  have hrep : repOf g.desc k = dq.rep := by simp [repOf, hdq]
                  have hcI : (c : Int) < (s.n : Int) := by omega
                  have hcl' : Hid (c < s.n) := hcl
                  clear hat
                  cases hp : plc (g.pl k) m with
                  | some p =>
                    have hm1 : Hid (miss1 g.desc g.pl x.id m k = []) := by show _ = _; unfold miss1; rw [hp]; rfl
                    rw [hp] at hpc
                    simp only [Option.getD_some, Option.isSome_some] at hpc
                    clear hLb hk hdq hrep
                    go_wp2_with (go_at_call 55; refine hpc.mono ?_; rintro e w2 ⟨rfl, rfl⟩)
                    (try rw [← has])
                    go_roundg (s.n - (c + 1))
                    case measure => have := hcl'.out; omega
                    case rel => exact ⟨c + 1, T5, a5, v5, hcl'.out, rfl, by go_num, by rw [htk.out, missK_snoc, hm1.out, List.append_nil]; exact hI5, hE5, hs5⟩
                  | none =>
                    have hm1 : Hid (miss1 g.desc g.pl x.id m k = [⟨kMiss, [x.id], [dq.rep]⟩]) := by show _ = _; unfold miss1; rw [hp, hrep]; rfl
                    rw [hp] at hpc
                    simp only [Option.getD_none, Option.isSome_none] at hpc
                    have hab : a5.length ≤ 1099511704064 := by
                      have h1 := congrArg List.length hI5.vios
                      have h2 := missUp_len g.desc g.cr g.pl (ps g).msgs (fun z hz => by obtain ⟨z', h3, rfl⟩ := List.mem_map.1 hz; exact (hto z' h3).1) hdl m
                      have h4 := missG_len g.desc g.cr g.pl x.id m (x.to.take j)
                      have h5 := missK_len g.desc g.pl x.id m ((rowOf g.desc g.cr g.desc.length y).take c)
                      have h6 : (x.to.take j).length * g.desc.length ≤ 1048576 * 256 := Nat.mul_le_mul (by rw [List.length_take]; have := htl'.out; omega) hdl
                      have h7 : ((rowOf g.desc g.cr g.desc.length y).take c).length ≤ 256 := by rw [List.length_take]; omega
                      have h8 := hlt'.out
                      simp only [List.length_map, List.length_append] at h1
                      omega
                    have e0 : wr.cell? ⟨E, 0, none⟩ = some (.string x.id) := hE5.1.cell 0
                    have l1 : wr.cell? ⟨g.L k, 1, none⟩ = some (.string dq.rep) := hLb.cell 1
                    have hEl : E < wr.heap.size := hE5.1.lt
                    have hLl : g.L k < wr.heap.size := hLb.lt
                    have nE1 : wr.heap.size ≠ E := by omega
                    have nL1 : wr.heap.size ≠ g.L k := by omega
                    have hdq' : Hid (g.desc[k]? = some dq) := hdq
                    clear hLb hk hdq hrep
                    go_upto_region 18 with (go_at_call 55; refine hpc.mono ?_; rintro e w2 ⟨rfl, rfl⟩)
                    go_region_held3 (fun w' => w'.cell? ⟨E, 0, none⟩ = some (.string x.id) ∧ w'.cell? ⟨g.L k, 1, none⟩ = some (.string dq.rep))
                      (first | go_keep | (go_split_ands; exact ⟨(hE5.keep0 hKr).1.cell 0, (hSr.lblk k dq hdq'.out).cell 1⟩))
                      ((go_at_call 57; refine (report_miss _ T5 B g a5 v5 hI5.st hab _ (by first | exact (((Below.refl _ _).alloc (Nat.le_refl _) _).alloc (by simp) _).drew | exact (((Below.refl _ _).drew.alloc (Nat.le_refl _) _).alloc (by simp) _)) g.R rfl _ _ x.id dq.rep (by first | exact blk_two1 _ _ _ | exact blk_two2 _ _ _) (by simp) (by first | exact blk_two1 _ _ _ | exact blk_two2 _ _ _) (by simp)).mono ?_; rintro e w3 ⟨rfl, Tr, ar, vr, hKr, hSr, hPr⟩))
                    all_goals go_wp2_with fail
                    all_goals
                      (try rw [← has])
                      go_roundg (s.n - (c + 1))
                      case measure => have := hcl'.out; omega
                      case rel => exact ⟨c + 1, Tr, ar, vr, hcl'.out, rfl, by go_num, ⟨hI5.keep.trans hKr, hSr, by rw [hPr, hI5.vios, htk.out, missK_snoc, hm1.out]; simp only [List.append_assoc], hI5.bg.keep0 hKr⟩, hE5.keep0 hKr, hs5.keep0 (by omega) hKr⟩
                · obtain rfl : c = s.n := by omega
                  have htk : Hid (x.to.take (j + 1) = x.to.take j ++ [y]) := by show _ = _; rw [List.take_add_one, hyy.out]; rfl
                  have hall : (rowOf g.desc g.cr g.desc.length y).take s.n = rowOf g.desc g.cr g.desc.length y := List.take_of_length_le (by rw [hsn'.out]; exact Nat.le_refl _)
                  rw [hall] at hI5
                  clear hall hs5
                  go_wp2_with fail
                  (try rw [← hat])
                  go_roundg (x.tos.n - (j + 1))
                  case measure => have := hjl'.out; omega
                  case rel => exact ⟨j + 1, T5, a5, v5, hjl'.out, rfl, by go_num, by rw [htk.out, missG_snoc, ← List.append_assoc]; exact hI5, hE5⟩
            · obtain rfl : j = x.tos.n := by omega
              have hall : x.to.take x.tos.n = x.to := List.take_of_length_le (by rw [htl'.out]; exact Nat.le_refl _)
              rw [hall] at hI4
              have hmM : Hid (missUp g.desc g.cr g.pl (ps g).msgs (m + 1) = missUp g.desc g.cr g.pl (ps g).msgs m ++ missG g.desc g.cr g.pl x.id m x.to) := by
                show _ = _
                rw [missUp, missM, show (ps g).msgs[m]? = some (absM x) by simp [ps, hxx.out]]
                rfl
              clear hall hE4
              go_wp2_with fail
              go_roundg (g.msgs.length - (m + 1))
              case measure => have := hlt'.out; omega
              case rel => exact ⟨m + 1, T4, a4, v4, hlt'.out, rfl, by go_num, by rw [hmM.out, ← List.append_assoc]; exact hI4⟩
        · obtain rfl : m = g.msgs.length := by omega
          go_wp2_with fail
          go_end0
          exact ⟨rfl, T2, a, v, hI.keep, hI.st, hI.vios⟩

end Go.Proofs.Qxb6601949a.Sc
