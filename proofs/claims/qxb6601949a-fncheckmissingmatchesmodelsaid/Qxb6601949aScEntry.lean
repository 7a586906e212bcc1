/- THE SCRIPT LAWS: toEntry. -/
import Derived.Test.Qxb6601949aScOps
import Derived.Lib.SliceRun
import Derived.Deep.Cut
namespace Go.Proofs.Qxb6601949a.Sc
open Go.RowKit Go.Maps
set_option linter.unusedVariables false
set_option linter.unusedSimpArgs false

theorem info108 : (Try.prog.info? 108).map (fun i => (i.zero, i.size, i.bytes)) = some (some (.agg #[.string ⟨#[]⟩, .bool false]), 2, 24) := by kernel_rfl

def EntryPost (w : World) (id : ByteArray) (ts : Int) (tn kn : Nat) (to : List ByteArray) (keys : List (ByteArray × Bool)) (e : Ending) (w' : World) : Prop :=
  ∃ t' k' : Sl, e = .returned (.agg #[.string id, .int .u64 ts, .slice t'.a t'.n t'.cap, .slice k'.a k'.n k'.cap]) ∧ t'.n = tn ∧ k'.n = kn ∧ CellsAt w' t' 1 (strsC to) ∧ CellsAt w' k' 2 (keysC keys) ∧ Below w.heap.size w w' ∧ (0 < t'.n → w.heap.size ≤ t'.b) ∧ (0 < k'.n → w.heap.size ≤ k'.b)

theorem neq_nil (w : World) (a : Option Addr) (n c : Nat) : (binOp .neq 44 (.slice a n c) (.slice none 0 0)).run Try.prog w = .ok (.bool (!a.isNone)) w := by
  simp only [binOp]
  simp [Op.equal, Op.maxDepth, Lib.run_equalIn_slice_nil w 9999 44 67 a n c 0 0 Try.underlying44]

theorem CellsAt.setOther {w : World} {s : Sl} {size : Nat} {cs : List Value} (h : CellsAt w s size cs) {a : Addr} (ha : 0 < s.n → s.b ≠ a.block) (u : Value) : CellsAt (w.setCell a u) s size cs := by
  by_cases hn : 0 < s.n
  · exact h.of_block (heap_setCell_other w a s.b u (ha hn))
  · refine ⟨h.len, h.at', h.nil, fun j v hj => ?_⟩
    have : cs = [] := List.eq_nil_of_length_eq_zero (by rw [h.len]; simp [Nat.eq_zero_of_not_pos hn])
    rw [this] at hj; simp at hj
theorem Cp.same {w wr wr' : World} {e : TypeId} {m k : Nat} {cs : List Value} (h : Cp w wr e m k cs) (h1 : wr'.heap = wr.heap) (h2 : wr'.os = wr.os) (h3 : wr'.tape = wr.tape) (h4 : wr'.output = wr.output) : Cp w wr' e m k cs := by
  obtain ⟨hb, f, hf, hr⟩ := h
  refine ⟨⟨h2.trans hb.os, h3.trans hb.tape, h4.trans hb.output, by rw [h1]; exact hb.size, fun b hh => by rw [h1]; exact hb.block b hh⟩, f, ?_, hr⟩
  unfold World.rowIs at hf ⊢
  rw [h1]
  exact hf
theorem load4 {w : World} {b : Nat} {ty : TypeId} {a0 a1 a2 a3 : Value} (h : Blk w b ty #[a0, a1, a2, a3]) : (loadCells ⟨b, 0, none⟩ 4).run Try.prog w = .ok #[a0, a1, a2, a3] w :=
  run_loadCells_list (P := Try.prog) w ⟨b, 0, none⟩ [a0, a1, a2, a3] (World.news_of_block h)

set_option maxRecDepth 100000 in
set_option maxHeartbeats 2000000 in
theorem toEntry_any (w : World) (log : Int) (id : ByteArray) (ts : Int) (t k : Sl) (to : List ByteArray) (keys : List (ByteArray × Bool)) (hT : CellsAt w t 1 (strsC to)) (hK : CellsAt w k 2 (keysC keys)) (htn : t.n ≤ 1048576) (hkn : k.n ≤ 1048576) :
    Calls Try.prog 43 #[.agg #[.int .i64 log, .string id, .int .u64 ts, .slice t.a t.n t.cap, .slice k.a k.n k.cap]] w fun e w' => EntryPost w id ts t.n k.n to keys e w' := by
  have q := neq_nil
  have hmk := run_make_cells 73 108 _ 2 24 Try.underlying73 info108 k.n (by omega) (by omega)
  have hB1 : Below w.heap.size w ((w.alloc (.cells #[.int .i64 log, .string id, .int .u64 ts, .slice t.a t.n t.cap, .slice k.a k.n k.cap] 46)).alloc (.cells #[.string ⟨#[]⟩, .int .u64 0, .slice none 0 0, .slice none 0 0] 75)) := ((Below.refl _ w).alloc (Nat.le_refl _) _).alloc (by simp) _
  have hA1 : Blk ((w.alloc (.cells #[.int .i64 log, .string id, .int .u64 ts, .slice t.a t.n t.cap, .slice k.a k.n k.cap] 46)).alloc (.cells #[.string ⟨#[]⟩, .int .u64 0, .slice none 0 0, .slice none 0 0] 75)) w.heap.size 46 #[.int .i64 log, .string id, .int .u64 ts, .slice t.a t.n t.cap, .slice k.a k.n k.cap] := by
    show (World.alloc _ _).heap[w.heap.size]? = _
    rw [heap_alloc_old _ _ (by simp)]
    exact heap_alloc_new w _
  have hA2 : Blk ((w.alloc (.cells #[.int .i64 log, .string id, .int .u64 ts, .slice t.a t.n t.cap, .slice k.a k.n k.cap] 46)).alloc (.cells #[.string ⟨#[]⟩, .int .u64 0, .slice none 0 0, .slice none 0 0] 75)) (w.heap.size + 1) 75 #[.string ⟨#[]⟩, .int .u64 0, .slice none 0 0, .slice none 0 0] := by
    have := heap_alloc_new (w.alloc (.cells #[.int .i64 log, .string id, .int .u64 ts, .slice t.a t.n t.cap, .slice k.a k.n k.cap] 46)) (.cells #[.string ⟨#[]⟩, .int .u64 0, .slice none 0 0, .slice none 0 0] 75)
    rwa [show (w.alloc (.cells #[.int .i64 log, .string id, .int .u64 ts, .slice t.a t.n t.cap, .slice k.a k.n k.cap] 46)).heap.size = w.heap.size + 1 by simp] at this
  have hsz : ((w.alloc (.cells #[.int .i64 log, .string id, .int .u64 ts, .slice t.a t.n t.cap, .slice k.a k.n k.cap] 46)).alloc (.cells #[.string ⟨#[]⟩, .int .u64 0, .slice none 0 0, .slice none 0 0] 75)).heap.size = w.heap.size + 2 := by simp
  have hcopy := copyStrs_any _ t to htn (hT.of_below hB1)
  have hcopy' : Calls Try.prog 32 #[.slice t.a t.n t.cap] ((w.alloc (.cells #[.int .i64 log, .string id, .int .u64 ts, .slice t.a t.n t.cap, .slice k.a k.n k.cap] 46)).alloc (.cells #[.string ⟨#[]⟩, .int .u64 0, .slice none 0 0, .slice none 0 0] 75)) fun e w1 => ∃ s' : Sl, e = .returned (.slice s'.a s'.n s'.cap) ∧ s'.n = t.n ∧ CellsAt w1 s' 1 (strsC to) ∧ (0 < t.n → w.heap.size + 2 ≤ s'.b) ∧ Below w.heap.size w w1 ∧ w.heap.size + 2 ≤ w1.heap.size ∧ Blk w1 w.heap.size 46 #[.int .i64 log, .string id, .int .u64 ts, .slice t.a t.n t.cap, .slice k.a k.n k.cap] ∧ Blk w1 (w.heap.size + 1) 75 #[.string ⟨#[]⟩, .int .u64 0, .slice none 0 0, .slice none 0 0] := by
    refine hcopy.mono ?_
    rintro e w1 ⟨s', he, h1, h2, h3, h4⟩
    have h5 := h3.size
    rw [hsz] at h4 h5
    exact ⟨s', he, h1, h2, h4, ⟨h3.os.trans hB1.os, h3.tape.trans hB1.tape, h3.output.trans hB1.output, by omega, fun b hb => (h3.block b (by rw [hsz]; omega)).trans (hB1.block b hb)⟩, h5, hA1.of_below h3, hA2.of_below h3⟩
  clear hcopy hA1 hA2 hsz hB1
  go_enter Try.func43, Try.ntmps43
  go_upto_region 1 with fail
  go_cut [3] from 6 (fun s3 w1 => ∃ s' : Sl, s3 = .slice s'.a s'.n s'.cap ∧ s'.n = t.n ∧ CellsAt w1 s' 1 (strsC to) ∧ (0 < t.n → w.heap.size + 2 ≤ s'.b) ∧ Below w.heap.size w w1 ∧ w.heap.size + 2 ≤ w1.heap.size ∧ Blk w1 w.heap.size 46 #[.int .i64 log, .string id, .int .u64 ts, .slice t.a t.n t.cap, .slice k.a k.n k.cap] ∧ Blk w1 (w.heap.size + 1) 75 #[.string ⟨#[]⟩, .int .u64 0, .slice none 0 0, .slice none 0 0])
  case first =>
    go_wp2_with (go_at_call 32; refine hcopy'.mono ?_; rintro e w1 ⟨s', rfl, hR⟩)
    go_meet
    exact ⟨s', by rw [hR.1], hR⟩
  case rest =>
  obtain ⟨s', rfl, hs'n, hs'c, hs'l, hB, hw1, hb1, hb2⟩ := hcut
  clear hcopy'
  have b1 : wc.cell? ⟨w.heap.size, 1, none⟩ = some (.string id) := hb1.cell 1
  have b2 : wc.cell? ⟨w.heap.size, 2, none⟩ = some (.int .u64 ts) := hb1.cell 2
  have b4 : wc.cell? ⟨w.heap.size, 4, none⟩ = some (.slice k.a k.n k.cap) := hb1.cell 4
  have z0 : wc.cell? ⟨w.heap.size + 1, 0, none⟩ = some (.string ⟨#[]⟩) := hb2.cell 0
  have z1 : wc.cell? ⟨w.heap.size + 1, 1, none⟩ = some (.int .u64 0) := hb2.cell 1
  have z2 : wc.cell? ⟨w.heap.size + 1, 2, none⟩ = some (.slice none 0 0) := hb2.cell 2
  have z3 : wc.cell? ⟨w.heap.size + 1, 3, none⟩ = some (.slice none 0 0) := hb2.cell 3
  have zf := hb2.frozen
  have hklen := hK.len
  rw [keysC_length] at hklen
  have hne : 0 < s'.n → s'.b ≠ w.heap.size + 1 := fun hh => by have := hs'l (by omega); omega
  obtain ⟨ka, kb, koff, kn, kcap⟩ := k
  simp only at hkn hmk b4 hklen
  cases ka with
  | none =>
    obtain rfl : kn = 0 := hK.nil rfl
    obtain rfl : keys = [] := List.eq_nil_of_length_eq_zero (by omega)
    go_wp2_with fail
    have hfin := ((((hb2.set 0 (.string id)).set 1 (.int .u64 ts)).set 2 (.slice s'.a t.n s'.cap)).set 3 (.slice none 0 0))
    have hBf : Below w.heap.size w ((((wc.setCell ⟨w.heap.size + 1, 0, none⟩ (.string id)).setCell ⟨w.heap.size + 1, 1, none⟩ (.int .u64 ts)).setCell ⟨w.heap.size + 1, 2, none⟩ (.slice s'.a t.n s'.cap)).setCell ⟨w.heap.size + 1, 3, none⟩ (.slice none 0 0)) := (((hB.setCell (by simp) _).setCell (by simp) _).setCell (by simp) _).setCell (by simp) _
    refine bodyPost_ret (v := .agg #[.string id, .int .u64 ts, .slice s'.a t.n s'.cap, .slice none 0 0]) ?_ rfl ?_
    · simp [results, Try.results43, asAddr, Result.andThen, loadVar, load4 hfin]
    · exact ⟨s', ⟨none, 0, 0, 0, 0⟩, by rw [hs'n], hs'n, rfl, ((((hs'c.setOther (a := ⟨w.heap.size + 1, 0, none⟩) hne _).setOther (a := ⟨w.heap.size + 1, 1, none⟩) hne _).setOther (a := ⟨w.heap.size + 1, 2, none⟩) hne _).setOther (a := ⟨w.heap.size + 1, 3, none⟩) hne _), cells_nil _ _, hBf, fun hh => by have := hs'l (by omega); omega, fun hh => by simp at hh⟩
  | some ad =>
    have H0 := Cp.start wc #[.string ⟨#[]⟩, .bool false] (kn * 2) 108 (keysC keys)
    go_wp2_with fail
    clear hmk q
    go_loopw [5] (fun i wr => ∃ k : Nat, k ≤ kn ∧ i = .int .i64 k ∧ Cp wc wr 108 (kn * 2) (k * 2) (keysC keys)) (fun i _ => kn - (intOf i).toNat)
    case atStart => exact ⟨0, Nat.zero_le _, rfl, H0⟩
    case round =>
      obtain ⟨k, hk, rfl, hC⟩ := hrel
      clear H0
      have b4' : wr.cell? ⟨w.heap.size, 4, none⟩ = some (.slice (some ad) kn kcap) := (hC.below.cell (p := ⟨w.heap.size, 4, none⟩) (by show w.heap.size < wc.heap.size; omega)).trans b4
      by_cases hlt : k < kn
      · obtain rfl : ad = ⟨kb, koff, none⟩ := Option.some.inj (hK.at' (by show 0 < kn; omega))
        obtain ⟨x0, x1, hx⟩ : ∃ x0 x1, keys[k]? = some (x0, x1) := ⟨(keys[k]'(by omega)).1, (keys[k]'(by omega)).2, List.getElem?_eq_getElem _⟩
        obtain ⟨hx', hx''⟩ := keys_get hx
        simp only at hx' hx''
        have hc0 := hK.cell _ _ hx'
        have hc1 := hK.cell _ _ hx''
        have l0 := World.block_lt_of_cell? _ _ hc0
        simp only at l0 hc0 hc1
        have hwk : kb < wc.heap.size := by omega
        have hc : wr.cell? ⟨kb, koff + k * 2, none⟩ = some (.string x0) := (hC.below.cell (p := ⟨kb, koff + k * 2, none⟩) hwk).trans ((hB.cell (p := ⟨kb, koff + k * 2, none⟩) l0).trans hc0)
        have hc' : wr.cell? ⟨kb, koff + k * 2 + 1, none⟩ = some (.bool x1) := (hC.below.cell (p := ⟨kb, koff + (k * 2 + 1), none⟩) hwk).trans ((hB.cell (p := ⟨kb, koff + (k * 2 + 1), none⟩) l0).trans hc1)
        obtain ⟨old, hw1'⟩ := hC.cell (i := k * 2) (by omega)
        obtain ⟨old2, hw1''⟩ := hC.cell (i := k * 2 + 1) (by omega)
        have hw2 := hC.frozen (k * 2)
        have hw2' := hC.frozen (k * 2 + 1)
        have H1 := (hC.step hx').step hx''
        have n1 : w.heap.size ≠ wc.heap.size := by omega
        have n2 : kb ≠ wc.heap.size := by omega
        have n3 : wc.heap.size ≠ kb := by omega
        have n4 : wc.heap.size ≠ w.heap.size := by omega
        have hkI : (k : Int) < (kn : Int) := by omega
        clear hK hC hx hx' hx'' hc0 hc1 hT hs'c
        go_wp2_with fail
        go_region_held3 (fun w' => w'.cell? ⟨w.heap.size, 4, none⟩ = some (.slice (some ⟨kb, koff, none⟩) kn kcap) ∧ w'.cell? ⟨kb, koff + k * 2, none⟩ = some (.string x0) ∧ w'.cell? ⟨kb, koff + k * 2 + 1, none⟩ = some (.bool x1)) (go_keep) (fail)
        all_goals go_wp2_with fail
        go_roundw
        case rel => exact ⟨k + 1, by omega, by go_num, by rw [show (k + 1) * 2 = k * 2 + 1 + 1 by omega]; exact H1.same rfl rfl rfl rfl⟩
        case measure => simp [intOf]; omega
      · obtain rfl : k = kn := by omega
        have hs1 := hC.below.size
        have b1' : wr.cell? ⟨w.heap.size, 1, none⟩ = some (.string id) := (hC.below.cell (p := ⟨w.heap.size, 1, none⟩) (by show w.heap.size < wc.heap.size; omega)).trans b1
        have b2' : wr.cell? ⟨w.heap.size, 2, none⟩ = some (.int .u64 ts) := (hC.below.cell (p := ⟨w.heap.size, 2, none⟩) (by show w.heap.size < wc.heap.size; omega)).trans b2
        have hb2' : Blk wr (w.heap.size + 1) 75 #[.string ⟨#[]⟩, .int .u64 0, .slice none 0 0, .slice none 0 0] := hb2.of_below hC.below
        have z0' : wr.cell? ⟨w.heap.size + 1, 0, none⟩ = some (.string ⟨#[]⟩) := hb2'.cell 0
        have z1' : wr.cell? ⟨w.heap.size + 1, 1, none⟩ = some (.int .u64 0) := hb2'.cell 1
        have z2' : wr.cell? ⟨w.heap.size + 1, 2, none⟩ = some (.slice none 0 0) := hb2'.cell 2
        have z3' : wr.cell? ⟨w.heap.size + 1, 3, none⟩ = some (.slice none 0 0) := hb2'.cell 3
        have zf' := hb2'.frozen
        have hKd := Cp.done (n := k) (size := 2) hC rfl hK.len
        have hs'c' := hs'c.of_below hC.below
        have hBr : Below w.heap.size w wr := ⟨hC.below.os.trans hB.os, hC.below.tape.trans hB.tape, hC.below.output.trans hB.output, Nat.le_trans hB.size hs1, fun b hb => (hC.below.block b (by omega)).trans (hB.block b hb)⟩
        have hneK : 0 < k → wc.heap.size ≠ w.heap.size + 1 := fun _ => by omega
        clear z0 z1 z2 z3 zf b1 b2 b4 hC hK hT hs'c hb2 hb1
        go_wp2_with fail
        have hfin := ((((hb2'.set 0 (.string id)).set 1 (.int .u64 ts)).set 2 (.slice s'.a t.n s'.cap)).set 3 (.slice (some ⟨wc.heap.size, 0, none⟩) k k))
        have hBf : Below w.heap.size w ((((wr.setCell ⟨w.heap.size + 1, 0, none⟩ (.string id)).setCell ⟨w.heap.size + 1, 1, none⟩ (.int .u64 ts)).setCell ⟨w.heap.size + 1, 2, none⟩ (.slice s'.a t.n s'.cap)).setCell ⟨w.heap.size + 1, 3, none⟩ (.slice (some ⟨wc.heap.size, 0, none⟩) k k)) := (((hBr.setCell (by simp) _).setCell (by simp) _).setCell (by simp) _).setCell (by simp) _
        refine bodyPost_ret (v := .agg #[.string id, .int .u64 ts, .slice s'.a t.n s'.cap, .slice (some ⟨wc.heap.size, 0, none⟩) k k]) ?_ rfl ?_
        · simp [results, Try.results43, asAddr, Result.andThen, loadVar, load4 hfin]
        · exact ⟨s', ⟨some ⟨wc.heap.size, 0, none⟩, wc.heap.size, 0, k, k⟩, by rw [hs'n], hs'n, rfl, ((((hs'c'.setOther (a := ⟨w.heap.size + 1, 0, none⟩) hne _).setOther (a := ⟨w.heap.size + 1, 1, none⟩) hne _).setOther (a := ⟨w.heap.size + 1, 2, none⟩) hne _).setOther (a := ⟨w.heap.size + 1, 3, none⟩) hne _), ((((hKd.setOther (a := ⟨w.heap.size + 1, 0, none⟩) hneK _).setOther (a := ⟨w.heap.size + 1, 1, none⟩) hneK _).setOther (a := ⟨w.heap.size + 1, 2, none⟩) hneK _).setOther (a := ⟨w.heap.size + 1, 3, none⟩) hneK _), hBf, fun hh => by have := hs'l (by omega); omega, fun hh => by show w.heap.size ≤ wc.heap.size; omega⟩

end Go.Proofs.Qxb6601949a.Sc
