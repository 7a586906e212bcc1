/- THE SCRIPT LAWS: runScript. -/
import Derived.Test.Qxb6601949aScNew
import Derived.Test.Qxb6601949aScRange
import Derived.Test.Qxb6601949aScCopyD
namespace Go.Proofs.Qxb6601949a.Sc
open Go.RowKit Go.Maps
set_option linter.unusedVariables false
set_option linter.unusedSimpArgs false

theorem info69 : (Try.prog.info? 69).map (fun i => (i.zero, i.size, i.bytes)) = some (some (.pointer none), 1, 8) := by kernel_rfl

/-- The first k logs are made. -/
structure LC (w wr : World) (n k : Nat) (lg : List Lp) : Prop where
  below : Below w.heap.size w wr
  size : wr.heap.size = w.heap.size + 1 + k
  row : ∃ f : Nat → Value, wr.rowIs w.heap.size 69 n f ∧ ∀ j, j < k → f j = .pointer (some ⟨w.heap.size + 1 + j, 0, none⟩)
  blk : ∀ j d, j < k → lg[j]? = some d → Blk wr (w.heap.size + 1 + j) 106 (logCells d (.slice none 0 0) (.slice none 0 0))
theorem LC.start (w : World) (n : Nat) (lg : List Lp) : LC w (w.alloc (.cells (madeCells #[.pointer none] n) 69)) n 0 lg := by
  refine ⟨(Below.refl _ _).alloc (Nat.le_refl _) _, by simp, ⟨_, World.rowIs_made w (.pointer none) n 69, fun j hj => by omega⟩, fun j d hj => by omega⟩
theorem LC.step {w wr : World} {n k : Nat} {lg : List Lp} (h : LC w wr n k lg) {p r g : ByteArray} (hd : lg[k]? = some ⟨p, r, g⟩) :
    LC w ((wr.setCell ⟨w.heap.size, k, none⟩ (.pointer (some ⟨wr.heap.size, 0, none⟩))).alloc (.cells (logCells ⟨p, r, g⟩ (.slice none 0 0) (.slice none 0 0)) 106)).drew n (k + 1) lg := by
  have hs := h.size
  have hss : (wr.setCell ⟨w.heap.size, k, none⟩ (.pointer (some ⟨wr.heap.size, 0, none⟩))).heap.size = wr.heap.size := by simp
  have hA : Below (wr.setCell ⟨w.heap.size, k, none⟩ (.pointer (some ⟨wr.heap.size, 0, none⟩))).heap.size (wr.setCell ⟨w.heap.size, k, none⟩ (.pointer (some ⟨wr.heap.size, 0, none⟩))) ((wr.setCell ⟨w.heap.size, k, none⟩ (.pointer (some ⟨wr.heap.size, 0, none⟩))).alloc (.cells (logCells ⟨p, r, g⟩ (.slice none 0 0) (.slice none 0 0)) 106)).drew := ((Below.refl _ _).alloc (Nat.le_refl _) _).drew
  have hX : Below w.heap.size w ((wr.setCell ⟨w.heap.size, k, none⟩ (.pointer (some ⟨wr.heap.size, 0, none⟩))).alloc (.cells (logCells ⟨p, r, g⟩ (.slice none 0 0) (.slice none 0 0)) 106)).drew := ((h.below.setCell (Nat.le_refl _) _).alloc (by rw [hss]; omega) _).drew
  obtain ⟨f, hf, hr⟩ := h.row
  refine ⟨hX, ?_, ⟨_, rowIs_below (hf.set k _) hA, fun j hj => ?_⟩, fun j d hj hd' => ?_⟩
  · show (World.alloc _ _).heap.size = _
    simp; omega
  · by_cases e : j = k
    · subst e; rw [if_pos rfl, hs]
    · rw [if_neg e]; exact hr j (by omega)
  · by_cases e : j = k
    · subst e
      rw [hd] at hd'
      cases hd'
      have h2 := heap_alloc_new (wr.setCell ⟨w.heap.size, j, none⟩ (.pointer (some ⟨wr.heap.size, 0, none⟩))) (.cells (logCells ⟨p, r, g⟩ (.slice none 0 0) (.slice none 0 0)) 106)
      rw [hss] at h2
      show (World.alloc _ _).heap[w.heap.size + 1 + j]? = _
      rw [← hs]
      exact h2
    · exact (hA.block _ (by rw [hss]; omega)).trans ((heap_setCell_other _ ⟨w.heap.size, k, none⟩ _ _ (by show w.heap.size + 1 + j ≠ w.heap.size; omega)).trans (h.blk j d (by omega) hd'))

def initG (S0 n : Nat) (cmp : Bool) (crs : Sl) (cr : List ByteArray) (lg : List Lp) : G :=
  { cmp := cmp, crs := crs, cr := cr, lss := ⟨some ⟨S0, 0, none⟩, S0, 0, n, n⟩, R := S0 + 1 + n + 2, M := S0 + 1 + n, M2 := S0 + 1 + n + 1, dels := 0, idn := 0, idf := fun _ => none, msgs := [], msgV := .slice none 0 0, vios := [], vioV := .slice none 0 0,
    L := fun k => S0 + 1 + k, desc := lg, ord := fun _ => [], ordV := fun _ => .slice none 0 0, pl := fun _ => [], plV := fun _ => .slice none 0 0 }
def initT (S0 n : Nat) : Nat → Nat := fun b => if b < S0 + 1 then 0 else if b < S0 + 1 + n then 5 + 3 * (b - (S0 + 1)) else if b = S0 + 1 + n then 2 else if b = S0 + 1 + n + 2 then 1 else 0
def ps0 : Ps := ⟨0, [], [], fun _ => [], fun _ => []⟩

theorem newRunW_below (w : World) (cmp : Bool) (crs lss : Sl) : Below w.heap.size w (newRunW w cmp crs lss) :=
  (((Below.refl _ w).alloc (Nat.le_refl _) _).alloc (by simp) _).alloc (by simp; omega) _

theorem init_st (w wr : World) (n : Nat) (cmp : Bool) (crs : Sl) (cr : List ByteArray) (lg : List Lp) (hC : LC w wr n n lg) (hn : lg.length = n) (hCr : CellsAt w crs 1 (strsC cr)) :
    St (newRunW wr cmp crs ⟨some ⟨w.heap.size, 0, none⟩, w.heap.size, 0, n, n⟩) (initT w.heap.size n) w.heap.size (initG w.heap.size n cmp crs cr lg) := by
  have hs := hC.size
  have hb := newRunW_below wr cmp crs ⟨some ⟨w.heap.size, 0, none⟩, w.heap.size, 0, n, n⟩
  have hbw : Below w.heap.size w (newRunW wr cmp crs ⟨some ⟨w.heap.size, 0, none⟩, w.heap.size, 0, n, n⟩) := below_next hC.below hb
  have hsz : (newRunW wr cmp crs ⟨some ⟨w.heap.size, 0, none⟩, w.heap.size, 0, n, n⟩).heap.size = w.heap.size + 1 + n + 3 := by simp [newRunW, hs]
  have t0 : ∀ b, b < w.heap.size + 1 → initT w.heap.size n b = 0 := fun b hb => by unfold initT; rw [if_pos hb]
  have hne : ∀ {s : Sl} {size : Nat} {cs : List Value}, CellsAt w s size cs → 0 < size → 0 < s.n → s.b < w.heap.size := fun {s size cs} h hz hs => h.lt (by rw [h.len]; exact Nat.mul_pos hs hz)
  refine ⟨fun b hb => t0 b (by omega), by omega, ?_, ?_, ⟨hCr.of_below hbw, fun h => t0 _ (by have := hne hCr (by omega) h; show crs.b < _; omega)⟩, ⟨⟨?_, fun _ => rfl, (fun hh => by cases hh), fun j v hj => ?_⟩, fun _ => t0 _ (by show w.heap.size < _; omega)⟩, ?_, ?_, Own.nil _ _ _ _ _, (fun m hm => by cases hm), Own.nil _ _ _ _ _, (fun m hm => by cases hm),
    fun k d hd => ?_, fun k hk => ?_, fun k hk => Own.nil _ _ _ _ _, fun k hk => Own.nil _ _ _ _ _⟩
  · have h1 := heap_alloc_new ((wr.alloc (.map #[] 0)).alloc (.map #[] 0)) (.cells (runCells (initG w.heap.size n cmp crs cr lg)) 85)
    rw [show ((wr.alloc (.map #[] 0)).alloc (.map #[] 0)).heap.size = w.heap.size + 1 + n + 2 by simp [hs]] at h1
    show (newRunW _ _ _ _).heap[_]? = _
    unfold newRunW
    rw [hs]
    exact h1
  · show initT w.heap.size n (w.heap.size + 1 + n + 2) = 1
    unfold initT
    rw [if_neg (by omega), if_neg (by omega), if_neg (by omega), if_pos rfl]
  · simp [ptrsC, initG, hn]
  · obtain ⟨f, hf, hr⟩ := hC.row
    have hjn : j < n := by have := get_lt hj; simpa [ptrsC, initG, hn] using this
    have hv : v = .pointer (some ⟨w.heap.size + 1 + j, 0, none⟩) := by
      simp [ptrsC, initG, hn, hjn] at hj
      exact hj.symm
    show (newRunW _ _ _ _).cell? ⟨w.heap.size, 0 + j, none⟩ = _
    rw [Nat.zero_add, hv, ← hr j hjn]
    exact (rowIs_below hf hb).cell hjn
  · have h1 := MapAt.made wr
    have h2 : Below (wr.alloc (.map #[] 0)).heap.size (wr.alloc (.map #[] 0)) (newRunW wr cmp crs ⟨some ⟨w.heap.size, 0, none⟩, w.heap.size, 0, n, n⟩) := ((Below.refl _ _).alloc (Nat.le_refl _) _).alloc (by simp) _
    have h3 := h1.of_block (h2.block _ h1.lt)
    rwa [hs] at h3
  · show initT w.heap.size n (w.heap.size + 1 + n) = 2
    unfold initT
    rw [if_neg (by omega), if_neg (by omega), if_pos rfl]
  · have hk : k < n := by have := get_lt hd; simp only [initG] at this; omega
    exact (hC.blk k d hk hd).of_below hb
  · have hk : k < n := by simp only [initG] at hk; omega
    show initT w.heap.size n (w.heap.size + 1 + k) = 5 + 3 * k
    unfold initT
    rw [if_neg (by omega), if_pos (by omega), show w.heap.size + 1 + k - (w.heap.size + 1) = k by omega]

/-- WHAT ZZNewRun LEAVES. -/
def NewPost (w : World) (n : Nat) (cmp : Bool) (crs : Sl) (cr : List ByteArray) (lg : List Lp) (e : Ending) (w' : World) : Prop :=
  ∃ T g, e = .returned (.pointer (some ⟨g.R, 0, none⟩)) ∧ St w' T w.heap.size g ∧ Good g ∧ ps g = ps0 ∧ g.cmp = cmp ∧ g.crs = crs ∧ g.cr = cr ∧ g.lss = ⟨some ⟨w.heap.size, 0, none⟩, w.heap.size, 0, n, n⟩ ∧ g.desc = lg ∧ Below w.heap.size w w'

theorem newRun_st (w wr : World) (n : Nat) (cmp : Bool) (crs : Sl) (cr : List ByteArray) (lg : List Lp) (hC : LC w wr n n lg) (hn : lg.length = n) (hCr : CellsAt w crs 1 (strsC cr)) :
    Calls Try.prog 41 #[.bool cmp, .slice crs.a crs.n crs.cap, .slice (some ⟨w.heap.size, 0, none⟩) n n] wr fun e w' => NewPost w n cmp crs cr lg e w' := by
  refine (newRun_any wr cmp crs ⟨some ⟨w.heap.size, 0, none⟩, w.heap.size, 0, n, n⟩).mono ?_
  rintro e w' ⟨rfl, rfl⟩
  refine ⟨_, initG w.heap.size n cmp crs cr lg, by rw [hC.size]; rfl, init_st w wr n cmp crs cr lg hC hn hCr, ⟨fun x => rfl, Nat.le_refl _, fun m hm => by cases hm⟩, rfl, rfl, rfl, rfl, rfl, rfl, below_next hC.below (newRunW_below _ _ _ _)⟩

/-! ### The fold -/
def mpOf (d : Dp) : Mp := ⟨d.id, d.ts, d.to, d.keys, d.log.toNat⟩
def runP (desc : List Lp) (ds : List Dp) : Nat → Ps
  | 0 => ps0
  | k + 1 => match ds[k]? with
    | some d => stepP desc d.log.toNat (mpOf d) (runP desc ds k)
    | none => runP desc ds k
theorem runP_bnd (desc : List Lp) (ds : List Dp) : ∀ k, k ≤ ds.length → Bnd k (runP desc ds k)
  | 0, _ => ⟨rfl, Nat.le_refl _, Nat.le_refl _, fun _ => Nat.le_refl _, fun _ => Nat.le_refl _, fun _ x hx => by cases hx⟩
  | k + 1, h => by
    have h1 : ds[k]? = some ds[k] := List.getElem?_eq_getElem _
    rw [runP, h1]
    exact (runP_bnd desc ds k (by omega)).step _ _ _
theorem runP_succ {desc : List Lp} {ds : List Dp} {k : Nat} {d : Dp} (h : ds[k]? = some d) : runP desc ds (k + 1) = stepP desc d.log.toNat (mpOf d) (runP desc ds k) := by rw [runP, h]

theorem line_any (w : World) (T : Nat → Nat) (B : Nat) (g : G) (h : St w T B g) (hG : Good g) (i : Nat) (hi : i < 4096) (hBn : Bnd i (ps g)) (q : Nat) (dq : Lp) (hq : g.desc[q]? = some dq) (R : Nat) (hR : g.R = R)
    (id : ByteArray) (ts : Int) (tos : Sl) (to : List ByteArray) (kes : Sl) (keys : List (ByteArray × Bool)) (hI : Imm w T tos 1 (strsC to)) (hJ : Imm w T kes 2 (keysC keys)) (hid : id.size ≤ 1048576) (hton : tos.n ≤ 1048576) (hken : kes.n ≤ 1048576) :
    Calls Try.prog 42 #[.pointer (some ⟨R, 0, none⟩), .pointer (some ⟨g.L q, 0, none⟩), .agg #[.string id, .int .u64 ts, .slice tos.a tos.n tos.cap, .slice kes.a kes.n kes.cap]] w
      fun e w' => DelPost w T B g (stepP g.desc q ⟨id, ts, to, keys, q⟩ (ps g)) e w' := by
  subst hR
  exact zzDeliver_any w T B g h hG i hi hBn q dq hq id ts tos to kes keys hI hJ hid hton hken

theorem six_below {w w' : World} {b o : Nat} {d : Dp} {t k : Sl} (h : DelAt w b o d t k) {S0 q : Nat} {v : Value} (hp : w.cell? ⟨S0, q, none⟩ = some v) (hb : Below w.heap.size w w') :
    w'.cell? ⟨b, o, none⟩ = some (.int .i64 d.log) ∧ w'.cell? ⟨b, o + 1, none⟩ = some (.string d.id) ∧ w'.cell? ⟨b, o + 2, none⟩ = some (.int .u64 d.ts) ∧ w'.cell? ⟨b, o + 3, none⟩ = some (.slice t.a t.n t.cap) ∧ w'.cell? ⟨b, o + 4, none⟩ = some (.slice k.a k.n k.cap) ∧ w'.cell? ⟨S0, q, none⟩ = some v :=
  have h1 := h.of_below hb
  ⟨h1.c0, h1.c1, h1.c2, h1.c3, h1.c4, (hb.cell (World.block_lt_of_cell? _ _ hp)).trans hp⟩
theorem keep0_cell {T T' : Nat → Nat} {w w' : World} (K : Keep0 T T' w w') {b o : Nat} (hT : T b = 0) {v : Value} (h : w.cell? ⟨b, o, none⟩ = some v) : w'.cell? ⟨b, o, none⟩ = some v :=
  (World.cell?_of_block (a := ⟨b, o, none⟩) (K.block b (World.block_lt_of_cell? _ _ h) hT)).trans h
theorem six_keep0 {w w1 w' : World} {T1 T2 : Nat → Nat} {b o : Nat} {d : Dp} {t k : Sl} (h : DelAt w b o d t k) {S0 q : Nat} {v : Value} (hp : w.cell? ⟨S0, q, none⟩ = some v) (hb : Below w.heap.size w w1) (K : Keep0 T1 T2 w1 w') (t1 : T1 b = 0) (t2 : T1 S0 = 0) :
    w'.cell? ⟨b, o, none⟩ = some (.int .i64 d.log) ∧ w'.cell? ⟨b, o + 1, none⟩ = some (.string d.id) ∧ w'.cell? ⟨b, o + 2, none⟩ = some (.int .u64 d.ts) ∧ w'.cell? ⟨b, o + 3, none⟩ = some (.slice t.a t.n t.cap) ∧ w'.cell? ⟨b, o + 4, none⟩ = some (.slice k.a k.n k.cap) ∧ w'.cell? ⟨S0, q, none⟩ = some v := by
  obtain ⟨a0, a1, a2, a3, a4, a5⟩ := six_below h hp hb
  exact ⟨keep0_cell K t1 a0, keep0_cell K t1 a1, keep0_cell K t1 a2, keep0_cell K t1 a3, keep0_cell K t1 a4, keep0_cell K t2 a5⟩

end Go.Proofs.Qxb6601949a.Sc
