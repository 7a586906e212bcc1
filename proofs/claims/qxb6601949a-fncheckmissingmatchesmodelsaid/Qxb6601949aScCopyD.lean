/- THE SCRIPT LAWS: copyDeliveries. -/
import Derived.Test.Qxb6601949aScOps
import Derived.Deep.RegionHeld3
import Derived.Deep.Cut
namespace Go.Proofs.Qxb6601949a.Sc
open Go.RowKit Go.Maps
set_option linter.unusedVariables false
set_option linter.unusedSimpArgs false

theorem info46 : (Try.prog.info? 46).map (fun i => (i.zero, i.size, i.bytes)) = some (some (.agg #[.int .i64 0, .string ⟨#[]⟩, .int .u64 0, .slice none 0 0, .slice none 0 0]), 5, 80) := by kernel_rfl

theorem below_next {a b c : World} (h : Below a.heap.size a b) (k : Below b.heap.size b c) : Below a.heap.size a c :=
  ⟨k.os.trans h.os, k.tape.trans h.tape, k.output.trans h.output, Nat.le_trans h.size k.size, fun i hi => (k.block i (Nat.lt_of_lt_of_le hi h.size)).trans (h.block i hi)⟩

/-- The five cells of a delivery. -/
structure Five (f : Nat → Value) (o : Nat) (d : Dp) (t k : Sl) : Prop where
  c0 : f o = .int .i64 d.log
  c1 : f (o + 1) = .string d.id
  c2 : f (o + 2) = .int .u64 d.ts
  c3 : f (o + 3) = .slice t.a t.n t.cap
  c4 : f (o + 4) = .slice k.a k.n k.cap

structure DCp (w wr : World) (n k : Nat) (ds : List Dp) : Prop where
  below : Below w.heap.size w wr
  row : ∃ f : Nat → Value, wr.rowIs w.heap.size 46 (n * 5) f ∧ ∀ j d, j < k → ds[j]? = some d → ∃ t k : Sl, Five f (j * 5) d t k ∧ CellsAt wr t 1 (strsC d.to) ∧ CellsAt wr k 2 (keysC d.keys) ∧ (0 < t.n → w.heap.size < t.b) ∧ (0 < k.n → w.heap.size < k.b)
theorem DCp.start (w : World) (zc : Array Value) (n : Nat) (hz : (madeCells zc (n * 5)).size = n * 5) (ds : List Dp) : DCp w (w.alloc (.cells (madeCells zc (n * 5)) 46)) n 0 ds := by
  refine ⟨(Below.refl _ _).alloc (Nat.le_refl _) _, fun i => ((madeCells zc (n * 5))[i]?).getD undef, ?_, fun j v hj => by omega⟩
  have := World.rowIs_alloc w (madeCells zc (n * 5)) 46 (fun i => ((madeCells zc (n * 5))[i]?).getD undef) (fun i hi => by simp [hi])
  rwa [hz] at this
theorem DCp.size {w wr : World} {n k : Nat} {ds : List Dp} (h : DCp w wr n k ds) : w.heap.size < wr.heap.size := by
  obtain ⟨f, ⟨c, hc, _⟩, _⟩ := h.row
  exact (Array.getElem?_eq_some_iff.1 hc).1
theorem DCp.slots {w wr w1 : World} {n k : Nat} {ds : List Dp} (h : DCp w wr n k ds) (hb : Below wr.heap.size wr w1) : (∀ i, i < n * 5 → ∃ v, w1.cell? ⟨w.heap.size, i, none⟩ = some v) ∧ ∀ i, w1.frozen? ⟨w.heap.size, i, none⟩ = false := by
  obtain ⟨f, hf, _⟩ := h.row
  have hs := h.size
  exact ⟨fun i hi => ⟨_, (hb.cell (p := ⟨w.heap.size, i, none⟩) hs).trans (hf.cell hi)⟩, fun i => (hb.frozen (p := ⟨w.heap.size, i, none⟩) hs).trans (hf.frozen i)⟩
theorem DCp.slots5 {w wr w1 : World} {n k : Nat} {ds : List Dp} (h : DCp w wr n k ds) (hk : k < n) (hb : Below wr.heap.size wr w1) : (∃ v, w1.cell? ⟨w.heap.size, k * 5, none⟩ = some v) ∧ (∃ v, w1.cell? ⟨w.heap.size, k * 5 + 1, none⟩ = some v) ∧ (∃ v, w1.cell? ⟨w.heap.size, k * 5 + 2, none⟩ = some v) ∧ (∃ v, w1.cell? ⟨w.heap.size, k * 5 + 3, none⟩ = some v) ∧ (∃ v, w1.cell? ⟨w.heap.size, k * 5 + 4, none⟩ = some v) ∧ ∀ i, w1.frozen? ⟨w.heap.size, i, none⟩ = false := by
  obtain ⟨h1, h2⟩ := h.slots hb
  exact ⟨h1 _ (by omega), h1 _ (by omega), h1 _ (by omega), h1 _ (by omega), h1 _ (by omega), h2⟩
theorem rowIs_below {w w' : World} {b : Nat} {t : TypeId} {n : Nat} {f : Nat → Value} (h : w.rowIs b t n f) (hb : Below w.heap.size w w') : w'.rowIs b t n f := by
  obtain ⟨c, hc, h2⟩ := h
  exact ⟨c, (hb.block b (Array.getElem?_eq_some_iff.1 hc).1).trans hc, h2⟩
theorem cells_set {w : World} {s : Sl} {size : Nat} {cs : List Value} (h : CellsAt w s size cs) {a : Addr} (ha : 0 < s.n → a.block < s.b) (u : Value) : CellsAt (w.setCell a u) s size cs := by
  by_cases hn : 0 < s.n
  · exact h.of_block (heap_setCell_other w a s.b u (by have := ha hn; omega))
  · refine ⟨h.len, h.at', h.nil, fun j v hj => ?_⟩
    have : cs = [] := List.eq_nil_of_length_eq_zero (by rw [h.len]; simp [Nat.eq_zero_of_not_pos hn])
    rw [this] at hj; simp at hj
theorem DCp.step {w wr : World} {n k : Nat} {ds : List Dp} (h : DCp w wr n k ds) {d : Dp} (hd : ds[k]? = some d) {w2 : World} (hb : Below wr.heap.size wr w2) (t' k' : Sl) (ct : CellsAt w2 t' 1 (strsC d.to)) (ck : CellsAt w2 k' 2 (keysC d.keys)) (lt : 0 < t'.n → w.heap.size < t'.b) (lk : 0 < k'.n → w.heap.size < k'.b) :
    DCp w (((((w2.setCell ⟨w.heap.size, k * 5, none⟩ (.int .i64 d.log)).setCell ⟨w.heap.size, k * 5 + 1, none⟩ (.string d.id)).setCell ⟨w.heap.size, k * 5 + 2, none⟩ (.int .u64 d.ts)).setCell ⟨w.heap.size, k * 5 + 3, none⟩ (.slice t'.a t'.n t'.cap)).setCell ⟨w.heap.size, k * 5 + 4, none⟩ (.slice k'.a k'.n k'.cap)) n (k + 1) ds := by
  have hw2 : Below w.heap.size w w2 := ⟨hb.os.trans h.below.os, hb.tape.trans h.below.tape, hb.output.trans h.below.output, Nat.le_trans h.below.size hb.size, fun i hi => (hb.block i (Nat.lt_of_lt_of_le hi h.below.size)).trans (h.below.block i hi)⟩
  obtain ⟨f, hf, hr⟩ := h.row
  have hf2 := rowIs_below hf hb
  refine ⟨((((hw2.setCell (Nat.le_refl _) _).setCell (Nat.le_refl _) _).setCell (Nat.le_refl _) _).setCell (Nat.le_refl _) _).setCell (Nat.le_refl _) _, _, ((((hf2.set (k * 5) _).set (k * 5 + 1) _).set (k * 5 + 2) _).set (k * 5 + 3) _).set (k * 5 + 4) _, fun j x hj hx => ?_⟩
  by_cases e : j = k
  · subst e
    rw [hd] at hx
    cases hx
    refine ⟨t', k', ⟨?_, ?_, ?_, ?_, ?_⟩, ?_, ?_, lt, lk⟩
    · simp
    · simp
    · simp
    · simp
    · simp
    · exact cells_set (cells_set (cells_set (cells_set (cells_set ct lt _) lt _) lt _) lt _) lt _
    · exact cells_set (cells_set (cells_set (cells_set (cells_set ck lk _) lk _) lk _) lk _) lk _
  · obtain ⟨t, kk, hF, h1, h2, h3, h4⟩ := hr j x (by omega) hx
    refine ⟨t, kk, ⟨?_, ?_, ?_, ?_, ?_⟩, ?_, ?_, h3, h4⟩
    · rw [← hF.c0]; repeat rw [if_neg (by omega)]
    · rw [← hF.c1]; repeat rw [if_neg (by omega)]
    · rw [← hF.c2]; repeat rw [if_neg (by omega)]
    · rw [← hF.c3]; repeat rw [if_neg (by omega)]
    · rw [← hF.c4]; repeat rw [if_neg (by omega)]
    · exact cells_set (cells_set (cells_set (cells_set (cells_set (h1.of_below hb) h3 _) h3 _) h3 _) h3 _) h3 _
    · exact cells_set (cells_set (cells_set (cells_set (cells_set (h2.of_below hb) h4 _) h4 _) h4 _) h4 _) h4 _
theorem DCp.done {w wr : World} {n : Nat} {ds : List Dp} (h : DCp w wr n n ds) (hl : ds.length = n) : DsAt wr ⟨some ⟨w.heap.size, 0, none⟩, w.heap.size, 0, n, n⟩ ds := by
  obtain ⟨f, hf, hr⟩ := h.row
  refine ⟨hl, fun _ => rfl, (fun hh => by cases hh), fun i d hd => ?_⟩
  have hi : i < n := by have := get_lt hd; omega
  obtain ⟨t, k, hF, h1, h2, _, _⟩ := hr i d hi hd
  refine ⟨t, k, ⟨?_, ?_, ?_, ?_, ?_, h1, h2⟩⟩
  · rw [← hF.c0, Nat.zero_add]; exact hf.cell (by omega)
  · rw [← hF.c1, Nat.zero_add]; exact hf.cell (by omega)
  · rw [← hF.c2, Nat.zero_add]; exact hf.cell (by omega)
  · rw [← hF.c3, Nat.zero_add]; exact hf.cell (by omega)
  · rw [← hF.c4, Nat.zero_add]; exact hf.cell (by omega)

theorem DelAt.five {w w' : World} {b o : Nat} {d : Dp} {t k : Sl} (h : DelAt w b o d t k) (hb : Below w.heap.size w w') :
    w'.cell? ⟨b, o, none⟩ = some (.int .i64 d.log) ∧ w'.cell? ⟨b, o + 1, none⟩ = some (.string d.id) ∧ w'.cell? ⟨b, o + 2, none⟩ = some (.int .u64 d.ts) ∧ w'.cell? ⟨b, o + 3, none⟩ = some (.slice t.a t.n t.cap) ∧ w'.cell? ⟨b, o + 4, none⟩ = some (.slice k.a k.n k.cap) :=
  have h1 := h.of_below hb
  ⟨h1.c0, h1.c1, h1.c2, h1.c3, h1.c4⟩

/-- WHAT copyDeliveries LEAVES. -/
def CopyDPost (w : World) (n : Nat) (ds : List Dp) (e : Ending) (w' : World) : Prop :=
  ∃ s' : Sl, e = .returned (.slice s'.a s'.n s'.cap) ∧ s'.n = n ∧ DsAt w' s' ds ∧ Below w.heap.size w w'

set_option maxRecDepth 100000 in
set_option maxHeartbeats 2000000 in
theorem copyDeliveries_any (w : World) (s : Sl) (ds : List Dp) (hn : s.n ≤ 1048576) (h : DsAt w s ds) (hfit : ∀ d, d ∈ ds → d.to.length ≤ 1048576 ∧ d.keys.length ≤ 1048576) :
    Calls Try.prog 19 #[.slice s.a s.n s.cap] w fun e w' => CopyDPost w s.n ds e w' := by
  have q : ∀ (w : World) (a : Option Addr) (n c n' c' : Nat), (binOp .eql 29 (.slice a n c) (.slice none n' c')).run Try.prog w = .ok (.bool a.isNone) w := fun w a n c n' c' => Lib.run_eql_slice_nil w _ _ a n c n' c' Try.underlying29
  have hmk := run_make_cells 29 46 _ 5 80 Try.underlying29 info46 s.n (by omega) (by omega)
  obtain ⟨a, b, off, n, cap⟩ := s
  simp only at hn hmk ⊢
  have hlen : ds.length = n := h.len
  cases a with
  | none =>
    obtain rfl := h.nil rfl
    obtain rfl : ds = [] := List.eq_nil_of_length_eq_zero hlen
    clear hmk h hlen
    go_enter Try.func19, Try.ntmps19
    go_wp2
    go_ret
    exact ⟨⟨none, 0, 0, 0, 0⟩, rfl, rfl, ⟨rfl, fun h => by simp at h, fun _ => rfl, fun i d h => by simp at h⟩, Below.refl _ _⟩
  | some ad =>
    have H0 := DCp.start w #[.int .i64 0, .string ⟨#[]⟩, .int .u64 0, .slice none 0 0, .slice none 0 0] n (size_madeCells _ _) ds
    go_enter Try.func19, Try.ntmps19
    go_wp2
    clear hmk q
    go_loopw [4] (fun i wr => ∃ k : Nat, k ≤ n ∧ i = .int .i64 k ∧ DCp w wr n k ds) (fun i _ => n - (intOf i).toNat)
    case atStart => exact ⟨0, Nat.zero_le _, rfl, H0⟩
    case round =>
      obtain ⟨k, hk, rfl, hC⟩ := hrel
      clear H0
      by_cases hlt : k < n
      · have hat : ad = ⟨b, off, none⟩ := Option.some.inj (h.at' (by show 0 < n; omega))
        subst hat
        obtain ⟨wo, rfl⟩ : ∃ wo : World, wo = wr := ⟨_, rfl⟩
        obtain ⟨d, t, kk, hd, hE0⟩ := h.get (i := k) hlt
        have hfd := hfit d (List.mem_of_getElem? hd)
        have htn : t.n ≤ 1048576 := by have := hE0.to.len; rw [strsC_length] at this; omega
        have hkn : kk.n ≤ 1048576 := by have := hE0.keys.len; rw [keysC_length] at this; omega
        have hE := hE0.of_below (w' := wo) hC.below
        have c0 := hE.c0
        have c1 := hE.c1
        have c2 := hE.c2
        have c3 := hE.c3
        have c4 := hE.c4
        simp only at c0 c1 c2 c3 c4
        have hkI : (k : Int) < (n : Int) := by omega
        have hsz := hC.size
        have hdr : Below wo.heap.size wo wo.drew := (Below.refl _ wo).drew
        have hEt := hE.to
        have hEk := hE.keys
        have hlt' : Hid (k < n) := hlt
        have hdd : Hid (ds[k]? = some d) := hd
        have hCC : Hid (DCp w wo n k ds) := hC
        have hbl : b < w.heap.size := World.block_lt_of_cell? _ _ hE0.c0
        have nb1 : w.heap.size ≠ b := by omega
        have nb2 : b ≠ w.heap.size := by omega
        have hEE : Hid (DelAt wo b (off + k * 5) d t kk) := hE
        clear h hlen hd hE hE0 hC hfd hfit hlt
        go_upto_region 7 with fail
        go_region_held3 (fun w' => w'.cell? ⟨b, off + k * 5, none⟩ = some (.int .i64 d.log) ∧ w'.cell? ⟨b, off + k * 5 + 1, none⟩ = some (.string d.id) ∧ w'.cell? ⟨b, off + k * 5 + 2, none⟩ = some (.int .u64 d.ts) ∧ w'.cell? ⟨b, off + k * 5 + 3, none⟩ = some (.slice t.a t.n t.cap) ∧ w'.cell? ⟨b, off + k * 5 + 4, none⟩ = some (.slice kk.a kk.n kk.cap))
          (first | go_keep | exact hEE.out.five hTb | exact hEE.out.five hKb)
          ((first | (go_at_call 32; refine (copyStrs_any _ t d.to htn (by exact hEt.of_below (by first | exact hdr | exact hKb))).mono ?_; rintro e w1 ⟨s1, rfl, hn1, hc1, hb1, hl1⟩; have hTb : Below wo.heap.size wo w1 := below_next (by first | exact hdr | exact hKb) hb1; obtain ⟨⟨o0, p0⟩, ⟨o1, p1⟩, ⟨o2, p2⟩, ⟨o3, p3⟩, ⟨o4, p4⟩, pf⟩ := hCC.out.slots5 hlt'.out hTb) | (go_at_call 39; refine (copyKeys_any _ kk d.keys hkn (by exact hEk.of_below (by first | exact hdr | exact hTb))).mono ?_; rintro e w2 ⟨s2, rfl, hn2, hc2, hb2, hl2⟩; have hKb : Below wo.heap.size wo w2 := below_next (by first | exact hdr | exact hTb) hb2; obtain ⟨⟨o0, p0⟩, ⟨o1, p1⟩, ⟨o2, p2⟩, ⟨o3, p3⟩, ⟨o4, p4⟩, pf⟩ := hCC.out.slots5 hlt'.out hKb)))
        go_wp2_with fail
        go_roundw
        case rel =>
          have hs1 : 0 < s1.n → w.heap.size < s1.b := fun hh => by have := hl1 (by omega); have h2 : wo.drew.heap.size = wo.heap.size := rfl; omega
          have hs2 : 0 < s2.n → w.heap.size < s2.b := fun hh => by have := hl2 (by omega); have := hTb.size; omega
          have := hCC.out.step hdd.out hKb s1 s2 (hc1.of_below hb2) hc2 hs1 hs2
          rw [hn1, hn2] at this
          exact ⟨k + 1, hlt'.out, by go_num, this⟩
        case measure => have := hlt'.out; simp [intOf]; omega
      · obtain rfl : k = n := by omega
        have hfin := hC.done hlen
        have hbb := hC.below
        clear h hC
        go_wp2
        go_ret
        exact ⟨_, rfl, rfl, hfin, hbb⟩

end Go.Proofs.Qxb6601949a.Sc
