/- THE SCRIPT LAWS: slices of strings, keys, logs and deliveries in memory; their copies. -/
import Derived.Test.Qxb6601949aProg
import Derived.WalkKit
import Derived.WalkSpells
import Derived.WalkLawsBesides
import Derived.WalkSmall
import Derived.Deep.OwnRows
import Derived.Deep.LoopGhost
import Derived.Deep.QuietTactic
import Derived.BigQuiet
namespace Go.Proofs.Qxb6601949a.Sc
open Go.RowKit
set_option linter.unusedVariables false
set_option linter.unusedSimpArgs false

/-- A slice's value: its address, its length, its capacity; 'b', 'off': where its cells lie if it has any. -/
structure Sl where
  a : Option Addr
  b : Nat
  off : Nat
  n : Nat
  cap : Nat

/-- The cells cs lie behind the slice, 'size' an element. -/
structure CellsAt (w : World) (s : Sl) (size : Nat) (cs : List Value) : Prop where
  len : cs.length = s.n * size
  at' : 0 < s.n → s.a = some ⟨s.b, s.off, none⟩
  nil : s.a = none → s.n = 0
  cell : ∀ (j : Nat) (v : Value), cs[j]? = some v → w.cell? ⟨s.b, s.off + j, none⟩ = some v

theorem CellsAt.of_block {w w' : World} {s : Sl} {size : Nat} {cs : List Value} (h : CellsAt w s size cs) (hb : w'.heap[s.b]? = w.heap[s.b]?) : CellsAt w' s size cs :=
  ⟨h.len, h.at', h.nil, fun j v hj => (World.cell?_of_block (a := ⟨s.b, s.off + j, none⟩) hb).trans (h.cell j v hj)⟩
theorem CellsAt.of_below {w w' : World} {s : Sl} {size : Nat} {cs : List Value} (h : CellsAt w s size cs) (hb : Below w.heap.size w w') : CellsAt w' s size cs :=
  ⟨h.len, h.at', h.nil, fun j v hj => (hb.cell (World.block_lt_of_cell? _ _ (h.cell j v hj))).trans (h.cell j v hj)⟩
theorem CellsAt.lt {w : World} {s : Sl} {size : Nat} {cs : List Value} (h : CellsAt w s size cs) (hc : 0 < cs.length) : s.b < w.heap.size :=
  World.block_lt_of_cell? _ _ (h.cell 0 cs[0] (List.getElem?_eq_getElem hc))

/-! ### What the cells say -/
def strsC (ss : List ByteArray) : List Value := ss.map fun s => .string s
theorem strsC_length (ss : List ByteArray) : (strsC ss).length = ss.length := by simp [strsC]
theorem strs_get {ss : List ByteArray} {i : Nat} {x : ByteArray} (h : ss[i]? = some x) : (strsC ss)[i]? = some (.string x) := by simp [strsC, h]
def keysC : List (ByteArray × Bool) → List Value
  | [] => []
  | k :: r => .string k.1 :: .bool k.2 :: keysC r
theorem keysC_length (ks : List (ByteArray × Bool)) : (keysC ks).length = ks.length * 2 := by
  induction ks with
  | nil => rfl
  | cons k r ih => simp only [keysC, List.length_cons, ih]; omega
theorem keys_get {ks : List (ByteArray × Bool)} : ∀ {i : Nat} {x : ByteArray × Bool}, ks[i]? = some x → (keysC ks)[i * 2]? = some (.string x.1) ∧ (keysC ks)[i * 2 + 1]? = some (.bool x.2) := by
  induction ks with
  | nil => intro i x h; simp at h
  | cons y r ih =>
    intro i x h
    match i, h with
    | 0, h => simp at h; subst h; exact ⟨rfl, rfl⟩
    | i + 1, h =>
      have h1 := ih (i := i) (x := x) (by simpa using h)
      rw [show (i + 1) * 2 = i * 2 + 1 + 1 by omega]
      exact h1
/-- A log as the law describes it. -/
structure Lp where
  path : ByteArray
  rep : ByteArray
  grp : ByteArray
def logsC : List Lp → List Value
  | [] => []
  | k :: r => .string k.path :: .string k.rep :: .string k.grp :: logsC r
theorem logsC_length (ks : List Lp) : (logsC ks).length = ks.length * 3 := by
  induction ks with
  | nil => rfl
  | cons k r ih => simp only [logsC, List.length_cons, ih]; omega
theorem logs_get {ks : List Lp} : ∀ {i : Nat} {x : Lp}, ks[i]? = some x → (logsC ks)[i * 3]? = some (.string x.path) ∧ (logsC ks)[i * 3 + 1]? = some (.string x.rep) ∧ (logsC ks)[i * 3 + 2]? = some (.string x.grp) := by
  induction ks with
  | nil => intro i x h; simp at h
  | cons y r ih =>
    intro i x h
    match i, h with
    | 0, h => simp at h; subst h; exact ⟨rfl, rfl, rfl⟩
    | i + 1, h =>
      have h1 := ih (i := i) (x := x) (by simpa using h)
      rw [show (i + 1) * 3 = i * 3 + 1 + 1 + 1 by omega]
      exact h1

/-! ### A copy, cell by cell, into a new block -/
structure Cp (w wr : World) (e : TypeId) (m k : Nat) (cs : List Value) : Prop where
  below : Below w.heap.size w wr
  row : ∃ f : Nat → Value, wr.rowIs w.heap.size e m f ∧ ∀ j v, j < k → cs[j]? = some v → f j = v
theorem Cp.start (w : World) (zc : Array Value) (m : Nat) (e : TypeId) (cs : List Value) : Cp w (w.alloc (.cells (madeCells zc m) e)) e m 0 cs := by
  refine ⟨(Below.refl _ _).alloc (Nat.le_refl _) _, fun i => ((madeCells zc m)[i]?).getD undef, ?_, fun j v hj => by omega⟩
  have := World.rowIs_alloc w (madeCells zc m) e (fun i => ((madeCells zc m)[i]?).getD undef) (fun i hi => by simp [hi])
  rwa [size_madeCells] at this
theorem Cp.step {w wr : World} {e : TypeId} {m k : Nat} {cs : List Value} (h : Cp w wr e m k cs) {v : Value} (hv : cs[k]? = some v) : Cp w (wr.setCell ⟨w.heap.size, k, none⟩ v) e m (k + 1) cs := by
  obtain ⟨f, h1, h2⟩ := h.row
  refine ⟨h.below.setCell (Nat.le_refl _) _, _, h1.set k v, fun j u hj hu => ?_⟩
  by_cases e : j = k
  · subst e; rw [if_pos rfl]; rw [hv] at hu; exact Option.some.inj hu
  · rw [if_neg e]; exact h2 j u (by omega) hu
theorem Cp.cell {w wr : World} {e : TypeId} {m k : Nat} {cs : List Value} (h : Cp w wr e m k cs) {i : Nat} (hi : i < m) : ∃ v, wr.cell? ⟨w.heap.size, i, none⟩ = some v := by
  obtain ⟨f, h1, _⟩ := h.row
  exact ⟨_, h1.cell hi⟩
theorem Cp.frozen {w wr : World} {e : TypeId} {m k : Nat} {cs : List Value} (h : Cp w wr e m k cs) (i : Nat) : wr.frozen? ⟨w.heap.size, i, none⟩ = false := by
  obtain ⟨f, h1, _⟩ := h.row
  exact h1.frozen i
theorem Cp.done {w wr : World} {e : TypeId} {m n size : Nat} {cs : List Value} (h : Cp w wr e m m cs) (hm : m = n * size) (hl : cs.length = n * size) : CellsAt wr ⟨some ⟨w.heap.size, 0, none⟩, w.heap.size, 0, n, n⟩ size cs := by
  obtain ⟨f, h1, h2⟩ := h.row
  refine ⟨hl, fun _ => rfl, (fun hh => by cases hh), fun j v hj => ?_⟩
  have hjm : j < m := by have := (List.getElem?_eq_some_iff.1 hj).1; omega
  show wr.cell? ⟨w.heap.size, 0 + j, none⟩ = some v
  rw [Nat.zero_add, h1.cell hjm, h2 j v hjm hj]
theorem cells_nil (w : World) (size : Nat) : CellsAt w ⟨none, 0, 0, 0, 0⟩ size [] := ⟨by simp, fun h => by simp at h, fun _ => rfl, fun j v h => by simp at h⟩

/-- WHAT A COPY LEAVES: a slice of the same length over the same cells; nothing old has turned. -/
def CopyPost (w : World) (n size : Nat) (cs : List Value) (e : Ending) (w' : World) : Prop :=
  ∃ s' : Sl, e = .returned (.slice s'.a s'.n s'.cap) ∧ s'.n = n ∧ CellsAt w' s' size cs ∧ Below w.heap.size w w' ∧ (0 < n → w.heap.size ≤ s'.b)

theorem run_make_cells (t e : TypeId) (z : Value) (size bytes : Nat) (ht : Try.prog.underlying t = some (.slice e)) (hinfo : (Try.prog.info? e).map (fun i => (i.zero, i.size, i.bytes)) = some (some z, size, bytes)) (n : Nat) (hb : bytes * n ≤ 281474976710656) (h63 : n ≤ 9223372036854775807) (w : World) :
    (Instr.makeSlice t (.int .i64 (n : Int)) (.int .i64 (n : Int))).run Try.prog w = .ok (.slice (some ⟨w.heap.size, 0, none⟩) n n) (w.alloc (.cells (madeCells z.cells (n * size)) e)) := by
  obtain ⟨i, hi, hz, hs, hbb⟩ := info_parts hinfo
  have hb' : (i.bytes : Int) * (n : Int) ≤ 281474976710656 := by
    rw [hbb]
    have h : ((bytes * n : Nat) : Int) ≤ 281474976710656 := by omega
    rwa [Int.natCast_mul] at h
  have hr := run_make (P := Try.prog) w t e i z ht hi hz .i64 .i64 n n (by omega) (Int.le_refl _) hb' (by omega)
  rw [hs] at hr
  simpa using hr

theorem info9 : (Try.prog.info? 9).map (fun i => (i.zero, i.size, i.bytes)) = some (some (.string ⟨#[]⟩), 1, 16) := by kernel_rfl
theorem info67 : (Try.prog.info? 67).map (fun i => (i.zero, i.size, i.bytes)) = some (some (.agg #[.string ⟨#[]⟩, .bool false]), 2, 24) := by kernel_rfl
theorem info62 : (Try.prog.info? 62).map (fun i => (i.zero, i.size, i.bytes)) = some (some (.agg #[.string ⟨#[]⟩, .string ⟨#[]⟩, .string ⟨#[]⟩]), 3, 48) := by kernel_rfl

set_option maxHeartbeats 400000 in
theorem copyStrs_any (w : World) (s : Sl) (ss : List ByteArray) (hn : s.n ≤ 1048576) (h : CellsAt w s 1 (strsC ss)) :
    Calls Try.prog 32 #[.slice s.a s.n s.cap] w fun e w' => CopyPost w s.n 1 (strsC ss) e w' := by
  have q : ∀ (w : World) (a : Option Addr) (n c n' c' : Nat), (binOp .eql 43 (.slice a n c) (.slice none n' c')).run Try.prog w = .ok (.bool a.isNone) w := fun w a n c n' c' => Lib.run_eql_slice_nil w _ _ a n c n' c' Try.underlying43
  have hmk := run_make_cells 43 9 _ 1 16 Try.underlying43 info9 s.n (by omega) (by omega)
  obtain ⟨a, b, off, n, cap⟩ := s
  simp only at hn hmk ⊢
  have hlen : ss.length = n := by have := h.len; rw [strsC_length] at this; simpa using this
  cases a with
  | none =>
    obtain rfl := h.nil rfl
    obtain rfl : ss = [] := List.eq_nil_of_length_eq_zero hlen
    clear hmk h hlen
    go_enter Try.func32, Try.ntmps32
    go_wp2
    go_ret
    exact ⟨⟨none, 0, 0, 0, 0⟩, rfl, rfl, cells_nil _ _, Below.refl _ _, fun hh => by omega⟩
  | some ad =>
    have H0 := Cp.start w #[.string ⟨#[]⟩] n 9 (strsC ss)
    go_enter Try.func32, Try.ntmps32
    go_wp2
    clear hmk q
    go_loopw [4] (fun i wr => ∃ k : Nat, k ≤ n ∧ i = .int .i64 k ∧ Cp w wr 9 n k (strsC ss)) (fun i _ => n - (intOf i).toNat)
    case atStart => exact ⟨0, Nat.zero_le _, rfl, H0⟩
    case round =>
      obtain ⟨k, hk, rfl, hC⟩ := hrel
      clear H0
      by_cases hlt : k < n
      · have hat : ad = ⟨b, off, none⟩ := Option.some.inj (h.at' (by show 0 < n; omega))
        subst hat
        obtain ⟨x, hx⟩ : ∃ x, ss[k]? = some x := ⟨ss[k]'(by omega), List.getElem?_eq_getElem _⟩
        have hx' := strs_get hx
        have hc0 := h.cell k _ hx'
        have hc : wr.cell? ⟨b, off + k, none⟩ = some (.string x) := (hC.below.cell (p := ⟨b, off + k, none⟩) (World.block_lt_of_cell? _ _ hc0)).trans hc0
        obtain ⟨old, hw1⟩ := hC.cell (i := k) (by omega)
        have hw2 := hC.frozen k
        have H1 := hC.step hx'
        clear h hC hx hx' hc0 hlen
        go_wp2
        go_roundw
        case rel => exact ⟨k + 1, by omega, by go_num, H1⟩
        case measure => simp [intOf]; omega
      · obtain rfl : k = n := by omega
        have hl := h.len
        clear h
        go_wp2
        go_ret
        refine ⟨_, rfl, rfl, Cp.done (size := 1) hC (by omega) hl, hC.below, fun _ => Nat.le_refl _⟩

set_option maxHeartbeats 400000 in
theorem copyKeys_any (w : World) (s : Sl) (ss : List (ByteArray × Bool)) (hn : s.n ≤ 1048576) (h : CellsAt w s 2 (keysC ss)) :
    Calls Try.prog 39 #[.slice s.a s.n s.cap] w fun e w' => CopyPost w s.n 2 (keysC ss) e w' := by
  have q : ∀ (w : World) (a : Option Addr) (n c n' c' : Nat), (binOp .eql 44 (.slice a n c) (.slice none n' c')).run Try.prog w = .ok (.bool a.isNone) w := fun w a n c n' c' => Lib.run_eql_slice_nil w _ _ a n c n' c' Try.underlying44
  have hmk := run_make_cells 44 67 _ 2 24 Try.underlying44 info67 s.n (by omega) (by omega)
  obtain ⟨a, b, off, n, cap⟩ := s
  simp only at hn hmk ⊢
  have hlen : ss.length = n := by have := h.len; rw [keysC_length] at this; simp only at this; omega
  cases a with
  | none =>
    obtain rfl := h.nil rfl
    obtain rfl : ss = [] := List.eq_nil_of_length_eq_zero hlen
    clear hmk h hlen
    go_enter Try.func39, Try.ntmps39
    go_wp2
    go_ret
    exact ⟨⟨none, 0, 0, 0, 0⟩, rfl, rfl, cells_nil _ _, Below.refl _ _, fun hh => by omega⟩
  | some ad =>
    have H0 := Cp.start w #[.string ⟨#[]⟩, .bool false] (n * 2) 67 (keysC ss)
    go_enter Try.func39, Try.ntmps39
    go_wp2
    clear hmk q
    go_loopw [4] (fun i wr => ∃ k : Nat, k ≤ n ∧ i = .int .i64 k ∧ Cp w wr 67 (n * 2) (k * 2) (keysC ss)) (fun i _ => n - (intOf i).toNat)
    case atStart => exact ⟨0, Nat.zero_le _, rfl, H0⟩
    case round =>
      obtain ⟨k, hk, rfl, hC⟩ := hrel
      clear H0
      by_cases hlt : k < n
      · have hat : ad = ⟨b, off, none⟩ := Option.some.inj (h.at' (by show 0 < n; omega))
        subst hat
        obtain ⟨x0, x1, hx⟩ : ∃ x0 x1, ss[k]? = some (x0, x1) := ⟨(ss[k]'(by omega)).1, (ss[k]'(by omega)).2, List.getElem?_eq_getElem _⟩
        obtain ⟨hx', hx''⟩ := keys_get hx
        simp only at hx' hx''
        have hc0 := h.cell _ _ hx'
        have hc1 := h.cell _ _ hx''
        have hc : wr.cell? ⟨b, off + k * 2, none⟩ = some (.string x0) := (hC.below.cell (p := ⟨b, off + k * 2, none⟩) (World.block_lt_of_cell? _ _ hc0)).trans hc0
        have hc' : wr.cell? ⟨b, off + k * 2 + 1, none⟩ = some (.bool x1) := (hC.below.cell (p := ⟨b, off + (k * 2 + 1), none⟩) (World.block_lt_of_cell? _ _ hc1)).trans hc1
        obtain ⟨old, hw1⟩ := hC.cell (i := k * 2) (by omega)
        obtain ⟨old2, hw1'⟩ := hC.cell (i := k * 2 + 1) (by omega)
        have hw2 := hC.frozen (k * 2)
        have hw2' := hC.frozen (k * 2 + 1)
        have H1 := (hC.step hx').step hx''
        clear h hC hx hx' hx'' hc0 hc1 hlen
        go_wp2
        go_roundw
        case rel => exact ⟨k + 1, by omega, by go_num, by rw [show (k + 1) * 2 = k * 2 + 1 + 1 by omega]; exact H1⟩
        case measure => simp [intOf]; omega
      · obtain rfl : k = n := by omega
        have hl := h.len
        clear h
        go_wp2
        go_ret
        refine ⟨_, rfl, rfl, Cp.done (size := 2) hC rfl hl, hC.below, fun _ => Nat.le_refl _⟩

set_option maxHeartbeats 400000 in
theorem copyLogs_any (w : World) (s : Sl) (ss : List Lp) (hn : s.n ≤ 1048576) (h : CellsAt w s 3 (logsC ss)) :
    Calls Try.prog 18 #[.slice s.a s.n s.cap] w fun e w' => CopyPost w s.n 3 (logsC ss) e w' := by
  have q : ∀ (w : World) (a : Option Addr) (n c n' c' : Nat), (binOp .eql 28 (.slice a n c) (.slice none n' c')).run Try.prog w = .ok (.bool a.isNone) w := fun w a n c n' c' => Lib.run_eql_slice_nil w _ _ a n c n' c' Try.underlying28
  have hmk := run_make_cells 28 62 _ 3 48 Try.underlying28 info62 s.n (by omega) (by omega)
  obtain ⟨a, b, off, n, cap⟩ := s
  simp only at hn hmk ⊢
  have hlen : ss.length = n := by have := h.len; rw [logsC_length] at this; simp only at this; omega
  cases a with
  | none =>
    obtain rfl := h.nil rfl
    obtain rfl : ss = [] := List.eq_nil_of_length_eq_zero hlen
    clear hmk h hlen
    go_enter Try.func18, Try.ntmps18
    go_wp2
    go_ret
    exact ⟨⟨none, 0, 0, 0, 0⟩, rfl, rfl, cells_nil _ _, Below.refl _ _, fun hh => by omega⟩
  | some ad =>
    have H0 := Cp.start w #[.string ⟨#[]⟩, .string ⟨#[]⟩, .string ⟨#[]⟩] (n * 3) 62 (logsC ss)
    go_enter Try.func18, Try.ntmps18
    go_wp2
    clear hmk q
    go_loopw [4] (fun i wr => ∃ k : Nat, k ≤ n ∧ i = .int .i64 k ∧ Cp w wr 62 (n * 3) (k * 3) (logsC ss)) (fun i _ => n - (intOf i).toNat)
    case atStart => exact ⟨0, Nat.zero_le _, rfl, H0⟩
    case round =>
      obtain ⟨k, hk, rfl, hC⟩ := hrel
      clear H0
      by_cases hlt : k < n
      · have hat : ad = ⟨b, off, none⟩ := Option.some.inj (h.at' (by show 0 < n; omega))
        subst hat
        obtain ⟨x, hx⟩ : ∃ x : Lp, ss[k]? = some x := ⟨ss[k]'(by omega), List.getElem?_eq_getElem _⟩
        obtain ⟨y0, y1, y2⟩ := logs_get hx
        have hc0 := h.cell _ _ y0
        have hc1 := h.cell _ _ y1
        have hc2 := h.cell _ _ y2
        have hc : wr.cell? ⟨b, off + k * 3, none⟩ = some (.string x.path) := (hC.below.cell (p := ⟨b, off + k * 3, none⟩) (World.block_lt_of_cell? _ _ hc0)).trans hc0
        have hc' : wr.cell? ⟨b, off + k * 3 + 1, none⟩ = some (.string x.rep) := (hC.below.cell (p := ⟨b, off + (k * 3 + 1), none⟩) (World.block_lt_of_cell? _ _ hc1)).trans hc1
        have hc'' : wr.cell? ⟨b, off + k * 3 + 2, none⟩ = some (.string x.grp) := (hC.below.cell (p := ⟨b, off + (k * 3 + 2), none⟩) (World.block_lt_of_cell? _ _ hc2)).trans hc2
        obtain ⟨old, hw1⟩ := hC.cell (i := k * 3) (by omega)
        obtain ⟨old2, hw1'⟩ := hC.cell (i := k * 3 + 1) (by omega)
        obtain ⟨old3, hw1''⟩ := hC.cell (i := k * 3 + 2) (by omega)
        have hw2 := hC.frozen (k * 3)
        have hw2' := hC.frozen (k * 3 + 1)
        have hw2'' := hC.frozen (k * 3 + 2)
        have H1 := ((hC.step y0).step y1).step y2
        obtain ⟨p0, p1, p2⟩ := x
        simp only at hc hc' hc'' H1
        clear h hC hx y0 y1 y2 hc0 hc1 hc2 hlen
        go_wp2
        go_roundw
        case rel => exact ⟨k + 1, by omega, by go_num, by rw [show (k + 1) * 3 = k * 3 + 1 + 1 + 1 by omega]; exact H1⟩
        case measure => simp [intOf]; omega
      · obtain rfl : k = n := by omega
        have hl := h.len
        clear h
        go_wp2
        go_ret
        refine ⟨_, rfl, rfl, Cp.done (size := 3) hC rfl hl, hC.below, fun _ => Nat.le_refl _⟩

end Go.Proofs.Qxb6601949a.Sc
