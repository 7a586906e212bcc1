/- THE SCRIPT LAWS: reportsFit, snapshotViols, violsEqual, prefixKept. -/
import Derived.Test.Qxb6601949aScViol2
namespace Go.Proofs.Qxb6601949a.Sc
open Go.RowKit Go.Maps
set_option linter.unusedVariables false
set_option linter.unusedSimpArgs false

set_option maxHeartbeats 1000000 in
theorem reportsFit_any (w : World) (s1 s2 : Sl) (ds : List Dp) (hn : s2.n ≤ 4096) (hD : DsAt w s2 ds) :
    Calls Try.prog 31 #[.slice s1.a s1.n s1.cap, .slice s2.a s2.n s2.cap] w fun e w' => RetB e True ∧ w' = w := by
  go_enter Try.func31, Try.ntmps31
  go_wp2
  go_loop [5, 6] (fun t i => ∃ (k : Nat) (m : Int), k ≤ s2.n ∧ i = .int .i64 k ∧ t = .int .i64 m) (fun _ i => s2.n - (intOf i).toNat)
  case atStart => exact ⟨0, _, Nat.zero_le _, rfl, rfl⟩
  case round =>
    obtain ⟨k, m, hk, rfl, rfl⟩ := hrel
    by_cases hlt : k < s2.n
    · have ha := hD.at' (by omega)
      obtain ⟨d, t, kk, hd, hE⟩ := hD.get hlt
      have c3 := hE.c3
      clear hD hE hd
      go_wp2
      go_round
      case rel => exact ⟨k + 1, _, by omega, by go_num, rfl⟩
      case measure => simp [intOf]; omega
    · clear hD
      go_wp2
      go_ret
      exact ⟨⟨_, rfl, fun _ => trivial⟩, rfl⟩

/-! ### snapshotViols -/
structure Three (f : Nat → Value) (o : Nat) (v : Vio) : Prop where
  c0 : f o = .string v.kind
  c1 : f (o + 1) = .slice v.is.a v.is.n v.is.cap
  c2 : f (o + 2) = .slice v.rs.a v.rs.n v.rs.cap
/-- The first k violations are copied. -/
structure VCp (w wr : World) (n k : Nat) (vs : List Vio) : Prop where
  below : Below w.heap.size w wr
  row : ∃ f : Nat → Value, wr.rowIs w.heap.size 91 (n * 3) f ∧ ∀ j v, j < k → vs[j]? = some v → ∃ v' : Vio, absV v' = absV v ∧ Three f (j * 3) v' ∧ CellsAt wr v'.is 1 (strsC v'.ids) ∧ CellsAt wr v'.rs 1 (strsC v'.reps) ∧ (0 < v'.is.n → w.heap.size < v'.is.b) ∧ (0 < v'.rs.n → w.heap.size < v'.rs.b)
theorem VCp.start (w : World) (zc : Array Value) (n : Nat) (hz : (madeCells zc (n * 3)).size = n * 3) (vs : List Vio) : VCp w (w.alloc (.cells (madeCells zc (n * 3)) 91)) n 0 vs := by
  refine ⟨(Below.refl _ _).alloc (Nat.le_refl _) _, fun i => ((madeCells zc (n * 3))[i]?).getD undef, ?_, fun j v hj => by omega⟩
  have := World.rowIs_alloc w (madeCells zc (n * 3)) 91 (fun i => ((madeCells zc (n * 3))[i]?).getD undef) (fun i hi => by simp [hi])
  rwa [hz] at this
theorem VCp.size {w wr : World} {n k : Nat} {vs : List Vio} (h : VCp w wr n k vs) : w.heap.size < wr.heap.size := by
  obtain ⟨f, ⟨c, hc, _⟩, _⟩ := h.row
  exact (Array.getElem?_eq_some_iff.1 hc).1
theorem VCp.slots {w wr w1 : World} {n k : Nat} {vs : List Vio} (h : VCp w wr n k vs) (hk : k < n) (hb : Below wr.heap.size wr w1) : (∃ v, w1.cell? ⟨w.heap.size, k * 3, none⟩ = some v) ∧ (∃ v, w1.cell? ⟨w.heap.size, k * 3 + 1, none⟩ = some v) ∧ (∃ v, w1.cell? ⟨w.heap.size, k * 3 + 2, none⟩ = some v) ∧ ∀ i, w1.frozen? ⟨w.heap.size, i, none⟩ = false := by
  obtain ⟨f, hf, _⟩ := h.row
  have hs := h.size
  have h1 : ∀ i, i < n * 3 → ∃ v, w1.cell? ⟨w.heap.size, i, none⟩ = some v := fun i hi => ⟨_, (hb.cell (p := ⟨w.heap.size, i, none⟩) hs).trans (hf.cell hi)⟩
  exact ⟨h1 _ (by omega), h1 _ (by omega), h1 _ (by omega), fun i => (hb.frozen (p := ⟨w.heap.size, i, none⟩) hs).trans (hf.frozen i)⟩
theorem VCp.step {w wr : World} {n k : Nat} {vs : List Vio} (h : VCp w wr n k vs) {v v' : Vio} (hd : vs[k]? = some v) (hv : absV v' = absV v) {w2 : World} (hb : Below wr.heap.size wr w2) (ct : CellsAt w2 v'.is 1 (strsC v'.ids)) (ck : CellsAt w2 v'.rs 1 (strsC v'.reps)) (lt : 0 < v'.is.n → w.heap.size < v'.is.b) (lk : 0 < v'.rs.n → w.heap.size < v'.rs.b) :
    VCp w (((w2.setCell ⟨w.heap.size, k * 3, none⟩ (.string v'.kind)).setCell ⟨w.heap.size, k * 3 + 1, none⟩ (.slice v'.is.a v'.is.n v'.is.cap)).setCell ⟨w.heap.size, k * 3 + 2, none⟩ (.slice v'.rs.a v'.rs.n v'.rs.cap)) n (k + 1) vs := by
  have hw2 : Below w.heap.size w w2 := below_next h.below hb
  obtain ⟨f, hf, hr⟩ := h.row
  have hf2 := rowIs_below hf hb
  refine ⟨((hw2.setCell (Nat.le_refl _) _).setCell (Nat.le_refl _) _).setCell (Nat.le_refl _) _, _, ((hf2.set (k * 3) _).set (k * 3 + 1) _).set (k * 3 + 2) _, fun j x hj hx => ?_⟩
  by_cases e : j = k
  · subst e
    rw [hd] at hx
    cases hx
    refine ⟨v', hv, ⟨?_, ?_, ?_⟩, cells_set (cells_set (cells_set ct lt _) lt _) lt _, cells_set (cells_set (cells_set ck lk _) lk _) lk _, lt, lk⟩
    · simp
    · simp
    · simp
  · obtain ⟨y, h0, hF, h1, h2, h3, h4⟩ := hr j x (by omega) hx
    refine ⟨y, h0, ⟨?_, ?_, ?_⟩, cells_set (cells_set (cells_set (h1.of_below hb) h3 _) h3 _) h3 _, cells_set (cells_set (cells_set (h2.of_below hb) h4 _) h4 _) h4 _, h3, h4⟩
    · rw [← hF.c0]; repeat rw [if_neg (by omega)]
    · rw [← hF.c1]; repeat rw [if_neg (by omega)]
    · rw [← hF.c2]; repeat rw [if_neg (by omega)]

theorem list_get {α : Type} {n : Nat} {p : Nat → α → Prop} (h : ∀ i, i < n → ∃ x, p i x) : ∃ xs : List α, xs.length = n ∧ ∀ i x, xs[i]? = some x → p i x := by
  induction n with
  | zero => exact ⟨[], rfl, fun i x h => by simp at h⟩
  | succ n ih =>
    obtain ⟨xs, h1, h2⟩ := ih (fun i hi => h i (by omega))
    obtain ⟨y, hy⟩ := h n (Nat.lt_succ_self n)
    refine ⟨xs ++ [y], by simp [h1], fun i x hx => ?_⟩
    by_cases e : i < xs.length
    · rw [List.getElem?_append_left e] at hx; exact h2 i x hx
    · have : i = n := by have := get_lt hx; simp at this; omega
      subst this
      rw [List.getElem?_append_right (by omega), h1, Nat.sub_self] at hx
      simp at hx
      subst hx
      exact hy

theorem VCp.done {w wr : World} {n : Nat} {vs : List Vio} (h : VCp w wr n n vs) (hl : vs.length = n) : ∃ vs' : List Vio, vs'.map absV = vs.map absV ∧ ViosAt wr ⟨some ⟨w.heap.size, 0, none⟩, w.heap.size, 0, n, n⟩ vs' ∧ ∀ v, v ∈ vs' → (0 < v.is.n → w.heap.size < v.is.b) ∧ (0 < v.rs.n → w.heap.size < v.rs.b) := by
  obtain ⟨f, hf, hr⟩ := h.row
  obtain ⟨vs', h1, h2⟩ := list_get (n := n) (p := fun j (v' : Vio) => ∃ v, vs[j]? = some v ∧ absV v' = absV v ∧ Three f (j * 3) v' ∧ CellsAt wr v'.is 1 (strsC v'.ids) ∧ CellsAt wr v'.rs 1 (strsC v'.reps) ∧ (0 < v'.is.n → w.heap.size < v'.is.b) ∧ (0 < v'.rs.n → w.heap.size < v'.rs.b)) (fun j hj => by
    obtain ⟨v, hv⟩ : ∃ v, vs[j]? = some v := ⟨vs[j]'(by omega), List.getElem?_eq_getElem _⟩
    obtain ⟨v', a1, a2, a3, a4, a5, a6⟩ := hr j v hj hv
    exact ⟨v', v, hv, a1, a2, a3, a4, a5, a6⟩)
  refine ⟨vs', ?_, ⟨?_, fun v hv => ?_⟩, fun v hv => ?_⟩
  · apply List.ext_getElem?
    intro j
    rw [List.getElem?_map, List.getElem?_map]
    cases hj : vs'[j]? with
    | none =>
      have : vs[j]? = none := List.getElem?_eq_none (by have := List.getElem?_eq_none_iff.1 hj; omega)
      rw [this]
    | some y =>
      obtain ⟨v, b1, b2, _⟩ := h2 j y hj
      rw [b1]
      simp [b2]
  · refine ⟨by rw [flat_len vioCells 3 (fun _ => rfl), h1], fun _ => rfl, (fun hh => by cases hh), fun j u hj => ?_⟩
    have hjl : j < n * 3 := by have := get_lt hj; rw [flat_len vioCells 3 (fun _ => rfl), h1] at this; exact this
    have hi : j / 3 < vs'.length := by omega
    obtain ⟨y, hx⟩ : ∃ y, vs'[j / 3]? = some y := ⟨vs'[j / 3], List.getElem?_eq_getElem hi⟩
    obtain ⟨v, _, _, hF, _⟩ := h2 _ _ hx
    have g1 := flat_get vioCells 3 (fun _ => rfl) vs' (j / 3) _ hx (j % 3) (Nat.mod_lt _ (by omega))
    rw [show j / 3 * 3 + j % 3 = j by omega, hj] at g1
    show wr.cell? ⟨w.heap.size, 0 + j, none⟩ = some u
    rw [Nat.zero_add, hf.cell hjl, g1]
    obtain ⟨i, r, hr, he⟩ : ∃ i r, r < 3 ∧ j = i * 3 + r := ⟨j / 3, j % 3, Nat.mod_lt _ (by omega), by omega⟩
    have hji : j / 3 = i := by omega
    have hjr : j % 3 = r := by omega
    rw [hji] at hF
    rw [hjr, he]
    have hm : r = 0 ∨ r = 1 ∨ r = 2 := by omega
    rcases hm with rfl | rfl | rfl
    · rw [Nat.add_zero, hF.c0]; rfl
    · rw [hF.c1]; rfl
    · rw [hF.c2]; rfl
  · obtain ⟨j, hj⟩ := List.getElem?_of_mem hv
    obtain ⟨_, _, _, _, a3, a4, _⟩ := h2 j v hj
    exact ⟨a3, a4⟩
  · obtain ⟨j, hj⟩ := List.getElem?_of_mem hv
    obtain ⟨_, _, _, _, _, _, a5⟩ := h2 j v hj
    exact a5

theorem ViosAt.threeB {w w' : World} {s : Sl} {vs : List Vio} (h : ViosAt w s vs) {i : Nat} {v : Vio} (hv : vs[i]? = some v) (hb : Below w.heap.size w w') :
    w'.cell? ⟨s.b, s.off + i * 3, none⟩ = some (.string v.kind) ∧ w'.cell? ⟨s.b, s.off + i * 3 + 1, none⟩ = some (.slice v.is.a v.is.n v.is.cap) ∧ w'.cell? ⟨s.b, s.off + i * 3 + 2, none⟩ = some (.slice v.rs.a v.rs.n v.rs.cap) := (h.of_below hb).three hv

set_option maxRecDepth 100000 in
set_option maxHeartbeats 600000 in
theorem snapshotViols_any (w : World) (s : Sl) (vs : List Vio) (hn : s.n ≤ 1048576) (h : ViosAt w s vs) (hfit : ∀ v, v ∈ vs → v.ids.length ≤ 1048576 ∧ v.reps.length ≤ 1048576) :
    Calls Try.prog 33 #[.slice s.a s.n s.cap] w fun e w' => ∃ (s' : Sl) (vs' : List Vio), e = .returned (.slice s'.a s'.n s'.cap) ∧ s'.n = s.n ∧ vs'.map absV = vs.map absV ∧ ViosAt w' s' vs' ∧ (0 < s'.n → w.heap.size ≤ s'.b) ∧ (∀ v, v ∈ vs' → (0 < v.is.n → w.heap.size < v.is.b) ∧ (0 < v.rs.n → w.heap.size < v.rs.b)) ∧ Below w.heap.size w w' := by
  have hmk := run_make_cells 50 91 _ 3 64 Try.underlying50 info91 s.n (by omega) (by omega)
  have hlen := h.len
  have H0 := VCp.start w #[.string ⟨#[]⟩, .slice none 0 0, .slice none 0 0] s.n (size_madeCells _ _) vs
  go_enter Try.func33, Try.ntmps33
  go_wp2
  clear hmk
  go_loopw [4] (fun i wr => ∃ k : Nat, k ≤ s.n ∧ i = .int .i64 k ∧ VCp w wr s.n k vs) (fun i _ => s.n - (intOf i).toNat)
  case atStart => exact ⟨0, Nat.zero_le _, rfl, H0⟩
  case round =>
    obtain ⟨k, hk, rfl, hC⟩ := hrel
    clear H0
    by_cases hlt : k < s.n
    · obtain ⟨wo, rfl⟩ : ∃ wo : World, wo = wr := ⟨_, rfl⟩
      have ha := h.cells.at' (by omega)
      obtain ⟨v, hv⟩ : ∃ v, vs[k]? = some v := ⟨vs[k]'(by omega), List.getElem?_eq_getElem _⟩
      have hfv := hfit v (List.mem_of_getElem? hv)
      obtain ⟨hEi0, hEr0⟩ := h.el v (List.mem_of_getElem? hv)
      have hEi := hEi0.of_below hC.below
      have hEr := hEr0.of_below hC.below
      have hin : v.is.n ≤ 1048576 := by have := hEi0.len; rw [strsC_length] at this; omega
      have hrn : v.rs.n ≤ 1048576 := by have := hEr0.len; rw [strsC_length] at this; omega
      have hV : Hid (ViosAt wo s vs) := h.of_below hC.below
      obtain ⟨c0, c1, c2⟩ := hV.out.three hv
      have hbl : s.b < w.heap.size := by
        have := (h.three hv).1
        exact World.block_lt_of_cell? _ _ this
      have nb1 : w.heap.size ≠ s.b := by omega
      have nb2 : s.b ≠ w.heap.size := by omega
      have hkI : (k : Int) < (s.n : Int) := by omega
      have hsz := hC.size
      have hdr : Below wo.heap.size wo wo.drew := (Below.refl _ wo).drew
      have hlt' : Hid (k < s.n) := hlt
      have hvv : Hid (vs[k]? = some v) := hv
      have hCC : Hid (VCp w wo s.n k vs) := hC
      have hcp1 := fun (wx : World) (hx : Below wo.heap.size wo wx) => copyStrs_any wx v.is v.ids hin (hEi.of_below hx)
      have hcp2 := fun (wx : World) (hx : Below wo.heap.size wo wx) => copyStrs_any wx v.rs v.reps hrn (hEr.of_below hx)
      clear h hlen hv hC hfv hfit hlt hEi0 hEr0
      go_upto_region 5 with fail
      go_region_held3 (fun w' => w'.cell? ⟨s.b, s.off + k * 3, none⟩ = some (.string v.kind) ∧ w'.cell? ⟨s.b, s.off + k * 3 + 1, none⟩ = some (.slice v.is.a v.is.n v.is.cap) ∧ w'.cell? ⟨s.b, s.off + k * 3 + 2, none⟩ = some (.slice v.rs.a v.rs.n v.rs.cap))
        (first | go_keep | exact hV.out.threeB hvv.out hTb | exact hV.out.threeB hvv.out hKb)
        ((first | (go_at_call 32; (with_reducible refine (hcp1 _ (by first | exact hdr | exact hKb)).mono ?_); rintro e w1 ⟨s1, rfl, hn1, hc1, hb1, hl1⟩; have hTb : Below wo.heap.size wo w1 := below_next (by first | exact hdr | exact hKb) hb1; obtain ⟨⟨o0, p0⟩, ⟨o1, p1⟩, ⟨o2, p2⟩, pf⟩ := hCC.out.slots hlt'.out hTb) | (go_at_call 32; (with_reducible refine (hcp2 _ (by first | exact hdr | exact hTb)).mono ?_); rintro e w2 ⟨s2, rfl, hn2, hc2, hb2, hl2⟩; have hKb : Below wo.heap.size wo w2 := below_next (by first | exact hdr | exact hTb) hb2; obtain ⟨⟨o0, p0⟩, ⟨o1, p1⟩, ⟨o2, p2⟩, pf⟩ := hCC.out.slots hlt'.out hKb)))
      all_goals go_wp2_with fail
      (try rw [← ha])
      go_roundw
      case rel =>
        have hs1 : 0 < s1.n → w.heap.size < s1.b := fun hh => by have := hl1 (by omega); have h2 : wo.drew.heap.size = wo.heap.size := rfl; omega
        have hs2 : 0 < s2.n → w.heap.size < s2.b := fun hh => by have := hl2 (by omega); have := hTb.size; omega
        have h9 := hCC.out.step (v' := ⟨v.kind, s1, v.ids, s2, v.reps⟩) hvv.out rfl hKb (hc1.of_below hb2) hc2 hs1 hs2
        simp only [hn1, hn2] at h9
        exact ⟨k + 1, hlt'.out, by go_num, h9⟩
      case measure => have := hlt'.out; simp [intOf]; omega
    · obtain rfl : k = s.n := by omega
      obtain ⟨vs', hm, hV, hVb⟩ := hC.done hlen
      have hbb := hC.below
      clear h hC
      go_wp2
      go_ret
      exact ⟨⟨some ⟨w.heap.size, 0, none⟩, w.heap.size, 0, s.n, s.n⟩, vs', rfl, rfl, hm, hV, fun _ => Nat.le_refl _, hVb, hbb⟩

/-! ### violsEqual, prefixKept -/
set_option maxRecDepth 100000 in
set_option maxHeartbeats 600000 in
theorem violsEqual_any (w : World) (v z : Vio) (h : absV v = absV z) (hvi : CellsAt w v.is 1 (strsC v.ids)) (hvr : CellsAt w v.rs 1 (strsC v.reps)) (hzi : CellsAt w z.is 1 (strsC z.ids)) (hzr : CellsAt w z.rs 1 (strsC z.reps)) (hin : v.is.n ≤ 1048576) (hrn : v.rs.n ≤ 1048576) :
    Calls Try.prog 51 #[.agg #[.string v.kind, .slice v.is.a v.is.n v.is.cap, .slice v.rs.a v.rs.n v.rs.cap], .agg #[.string z.kind, .slice z.is.a z.is.n z.is.cap, .slice z.rs.a z.rs.n z.rs.cap]] w fun e w' => e = .returned (.bool true) ∧ Below w.heap.size w w' := by
  obtain ⟨kind, is, ids, rs, reps⟩ := v
  obtain ⟨zk, zis, zids, zrs, zreps⟩ := z
  simp only [absV, Vp.mk.injEq] at h
  obtain ⟨rfl, rfl, rfl⟩ := h
  simp only at hvi hvr hzi hzr hin hrn ⊢
  have hB : Below w.heap.size w ((w.alloc (.cells #[.string kind, .slice is.a is.n is.cap, .slice rs.a rs.n rs.cap] 91)).alloc (.cells #[.string kind, .slice zis.a zis.n zis.cap, .slice zrs.a zrs.n zrs.cap] 91)) := ((Below.refl _ w).alloc (Nat.le_refl _) _).alloc (by simp) _
  have hc1 : ∀ wx, Below w.heap.size w wx → Calls Try.prog 46 #[.slice is.a is.n is.cap, .slice zis.a zis.n zis.cap] wx fun e w' => e = .returned (.bool true) ∧ ∃ m, w' = wx.drewN m := fun wx hx => by
    have := strsEqual_any wx is zis ids ids (by omega) (hvi.of_below hx) (hzi.of_below hx)
    simpa using this
  have hc2 : ∀ wx, Below w.heap.size w wx → Calls Try.prog 46 #[.slice rs.a rs.n rs.cap, .slice zrs.a zrs.n zrs.cap] wx fun e w' => e = .returned (.bool true) ∧ ∃ m, w' = wx.drewN m := fun wx hx => by
    have := strsEqual_any wx rs zrs reps reps (by omega) (hvr.of_below hx) (hzr.of_below hx)
    simpa using this
  have k1 : (kind.toList == kind.toList) = true := beq_self_eq_true _
  clear hvi hvr hzi hzr
  go_enter Try.func51, Try.ntmps51
  go_wp2_with (first | (go_at_call 46; (with_reducible refine (hc1 _ (by exact hB)).mono ?_); rintro e w1 ⟨rfl, m1, rfl⟩) | (go_at_call 46; (with_reducible refine (hc2 _ (by exact below_drewN hB _)).mono ?_); rintro e w2 ⟨rfl, m2, rfl⟩))
  go_ret
  exact ⟨rfl, below_drewN hB _⟩

theorem six_cells {w w' : World} {p1 p2 p3 p4 p5 p6 : Addr} {v1 v2 v3 v4 v5 v6 : Value} (hb : Below w.drew.heap.size w.drew w') (h : w.cell? p1 = some v1 ∧ w.cell? p2 = some v2 ∧ w.cell? p3 = some v3 ∧ w.cell? p4 = some v4 ∧ w.cell? p5 = some v5 ∧ w.cell? p6 = some v6) :
    w'.cell? p1 = some v1 ∧ w'.cell? p2 = some v2 ∧ w'.cell? p3 = some v3 ∧ w'.cell? p4 = some v4 ∧ w'.cell? p5 = some v5 ∧ w'.cell? p6 = some v6 := by
  have c : ∀ {p : Addr} {v : Value}, w.cell? p = some v → w'.cell? p = some v := fun {p v} h => (hb.cell (World.block_lt_of_cell? _ _ h)).trans h
  exact ⟨c h.1, c h.2.1, c h.2.2.1, c h.2.2.2.1, c h.2.2.2.2.1, c h.2.2.2.2.2⟩

set_option maxRecDepth 100000 in
set_option maxHeartbeats 600000 in
theorem prefixKept_any (w : World) (sg sp : Sl) (vs ps : List Vio) (hV : ViosAt w sg vs) (hP : ViosAt w sp ps) (hl : ps.length ≤ vs.length) (hb : vs.length ≤ 4398046511104)
    (hm : ∀ (i : Nat) (z : Vio), ps[i]? = some z → ∃ v, vs[i]? = some v ∧ absV v = absV z ∧ v.is.n ≤ 1048576 ∧ v.rs.n ≤ 1048576) :
    Calls Try.prog 35 #[.slice sg.a sg.n sg.cap, .slice sp.a sp.n sp.cap] w fun e w' => e = .returned (.bool true) ∧ Below w.heap.size w w' := by
  have hl1 := hV.len
  have hl2 := hP.len
  have hle : ¬ (sg.n : Int) < (sp.n : Int) := by omega
  have hled : decide ((sg.n : Int) < (sp.n : Int)) = false := decide_eq_false hle
  have hspb : sp.n ≤ 4398046511104 := by omega
  go_enter Try.func35, Try.ntmps35
  go_wp2
  go_loopw [5] (fun i wr => ∃ k : Nat, k ≤ sp.n ∧ i = .int .i64 k ∧ Below w.heap.size w wr) (fun i _ => sp.n - (intOf i).toNat)
  case atStart => exact ⟨0, Nat.zero_le _, rfl, Below.refl _ _⟩
  case round =>
    obtain ⟨k, hk, rfl, hB⟩ := hrel
    by_cases hlt : k < sp.n
    · obtain ⟨wo, rfl⟩ : ∃ wo : World, wo = wr := ⟨_, rfl⟩
      obtain ⟨z, hz⟩ : ∃ z, ps[k]? = some z := ⟨ps[k]'(by omega), List.getElem?_eq_getElem _⟩
      obtain ⟨v, hv, hvz, hin, hrn⟩ := hm k z hz
      have hVo := hV.of_below hB
      have hPo := hP.of_below hB
      obtain ⟨a0, a1, a2⟩ := hVo.three hv
      obtain ⟨b0, b1, b2⟩ := hPo.three hz
      obtain ⟨eI, eR⟩ := hVo.el v (List.mem_of_getElem? hv)
      obtain ⟨fI, fR⟩ := hPo.el z (List.mem_of_getElem? hz)
      have ha1 := hV.cells.at' (by omega)
      have ha2 := hP.cells.at' (by omega)
      have hcall := fun (wx : World) (hx : Below wo.heap.size wo wx) => violsEqual_any wx v z hvz (eI.of_below hx) (eR.of_below hx) (fI.of_below hx) (fR.of_below hx) hin hrn
      have hkI : (k : Int) < (sp.n : Int) := by omega
      have hkG : (k : Int) < (sg.n : Int) := by omega
      have hdr : Below wo.heap.size wo wo.drew := (Below.refl _ wo).drew
      have hlt' : Hid (k < sp.n) := hlt
      clear hV hP hVo hPo hm hl eI eR fI fR hz hv hvz hlt hl1 hl2 hin hrn hle hled
      go_upto_region 6 with fail
      go_region_held3 (fun w' => w'.cell? ⟨sg.b, sg.off + k * 3, none⟩ = some (.string v.kind) ∧ w'.cell? ⟨sg.b, sg.off + k * 3 + 1, none⟩ = some (.slice v.is.a v.is.n v.is.cap) ∧ w'.cell? ⟨sg.b, sg.off + k * 3 + 2, none⟩ = some (.slice v.rs.a v.rs.n v.rs.cap) ∧ w'.cell? ⟨sp.b, sp.off + k * 3, none⟩ = some (.string z.kind) ∧ w'.cell? ⟨sp.b, sp.off + k * 3 + 1, none⟩ = some (.slice z.is.a z.is.n z.is.cap) ∧ w'.cell? ⟨sp.b, sp.off + k * 3 + 2, none⟩ = some (.slice z.rs.a z.rs.n z.rs.cap))
        (first | go_keep | exact six_cells hb1 ⟨a0, a1, a2, b0, b1, b2⟩)
        ((go_at_call 51; refine (hcall _ (by exact hdr)).mono ?_; rintro e w1 ⟨rfl, hb1⟩))
      all_goals go_wp2_with fail
      rw [← ha1, ← ha2]
      go_roundw
      case rel => exact ⟨k + 1, hlt'.out, by clear hcall; go_num, below_next hB (below_next hdr hb1)⟩
      case measure => have := hlt'.out; clear hcall; simp [intOf]; omega
    · obtain rfl : k = sp.n := by omega
      clear hV hP hm
      go_wp2
      go_ret
      exact ⟨rfl, hB⟩

end Go.Proofs.Qxb6601949a.Sc
