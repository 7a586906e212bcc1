/- THE WALK of copyGraph. -/
import Derived.Test.Qxb6601949aFcRead
import Derived.Deep.OwnRows
import Derived.Deep.Slices
namespace Go.Proofs.Qxb6601949a.Fc
open Go.RowKit

theorem info3 : (Try.prog.info? 3).map (fun i => (i.zero, i.size, i.bytes)) = some (some (.int .i64 0), 1, 8) := by kernel_rfl
theorem info25 : (Try.prog.info? 25).map (fun i => (i.zero, i.size, i.bytes)) = some (some (.slice none 0 0), 1, 24) := by kernel_rfl

/-- A row of the copy: nil and empty, or a new block of its own. -/
def RowNew (wr : World) (N : Nat) (v : Value) (l : Nat) (z : Nat → Int) : Prop :=
  (v = .slice none 0 0 ∧ l = 0) ∨ ∃ g, v = .slice (some ⟨g, 0, none⟩) l l ∧ N < g ∧ g < wr.heap.size ∧ wr.rowIs g 3 l (fun c => .int .i64 (z c))

theorem RowNew.alloc {wr : World} {N : Nat} {v : Value} {l : Nat} {z : Nat → Int} (h : RowNew wr N v l z) (o : Obj) : RowNew (wr.alloc o) N v l z := by
  rcases h with h | ⟨g, h1, h2, h3, h4⟩
  · exact .inl h
  · exact .inr ⟨g, h1, h2, by simp; omega, h4.alloc o⟩
theorem RowNew.setTop {wr : World} {N : Nat} {v : Value} {l : Nat} {z : Nat → Int} (h : RowNew wr N v l z) (i : Nat) (u : Value) : RowNew (wr.setCell ⟨N, i, none⟩ u) N v l z := by
  rcases h with h | ⟨g, h1, h2, h3, h4⟩
  · exact .inl h
  · exact .inr ⟨g, h1, h2, by simpa [World.setCell] using h3, h4.setOther (by show g ≠ N; omega) u⟩

/-- What holds at the outer loop's head, k rows copied. -/
structure COuter (w wr : World) (n k : Nat) (L : Nat → Nat) (Z : Nat → Nat → Int) : Prop where
  below : Below w.heap.size w wr
  size : w.heap.size < wr.heap.size
  top : ∃ V : Nat → Value, wr.rowIs w.heap.size 25 n V ∧ (∀ j, j < k → RowNew wr w.heap.size (V j) (L j) (Z j)) ∧ (∀ j, k ≤ j → V j = .slice none 0 0)

/-- .. and at the inner loop's: m numbers of row k are copied into the new block g. -/
structure CInner (w wr : World) (n k g m : Nat) (L : Nat → Nat) (Z : Nat → Nat → Int) : Prop where
  below : Below w.heap.size w wr
  size : wr.heap.size = g + 1
  lt : w.heap.size < g
  top : ∃ V : Nat → Value, wr.rowIs w.heap.size 25 n V ∧ (∀ j, j < k → ∃ wo : World, wo.heap.size = g ∧ (∀ i, i < g → wr.heap[i]? = wo.heap[i]?) ∧ RowNew wo w.heap.size (V j) (L j) (Z j)) ∧ (∀ j, k ≤ j → V j = .slice none 0 0)
  cur : wr.rowIs g 3 (L k) (fun c => if c < m then .int .i64 (Z k c) else .int .i64 0)

theorem copy_start (w : World) (n : Nat) (L : Nat → Nat) (Z : Nat → Nat → Int) : COuter w (w.alloc (.cells (madeCells #[.slice none 0 0] n) 25)) n 0 L Z :=
  ⟨(Below.refl _ _).alloc (Nat.le_refl _) _, by simp, fun _ => .slice none 0 0, World.rowIs_made w _ n 25, fun j hj => by omega, fun _ _ => rfl⟩

theorem copy_nil {w wr : World} {n k : Nat} {L : Nat → Nat} {Z : Nat → Nat → Int} (h : COuter w wr n k L Z) (hl : L k = 0) : COuter w wr n (k + 1) L Z := by
  obtain ⟨V, h1, h2, h3⟩ := h.top
  refine ⟨h.below, h.size, V, h1, fun j hj => ?_, fun j hj => h3 j (by omega)⟩
  by_cases e : j = k
  · subst e; exact .inl ⟨h3 j (Nat.le_refl _), hl⟩
  · exact h2 j (by omega)

theorem copy_in {w wr : World} {n k : Nat} {L : Nat → Nat} {Z : Nat → Nat → Int} (h : COuter w wr n k L Z) : CInner w (wr.alloc (.cells (madeCells #[.int .i64 0] (L k)) 3)) n k wr.heap.size 0 L Z := by
  obtain ⟨V, h1, h2, h3⟩ := h.top
  refine ⟨h.below.alloc (by have := h.size; omega) _, by simp, h.size, ⟨V, h1.alloc _, fun j hj => ⟨wr, rfl, fun i hi => Below.heap_alloc _ _ _ hi, h2 j hj⟩, h3⟩, (World.rowIs_made wr _ (L k) 3).congr (fun i _ => by simp)⟩

theorem copy_step {w wr : World} {n k g m : Nat} {L : Nat → Nat} {Z : Nat → Nat → Int} (h : CInner w wr n k g m L Z) : CInner w (wr.setCell ⟨g, m, none⟩ (.int .i64 (Z k m))) n k g (m + 1) L Z := by
  obtain ⟨V, h1, h2, h3⟩ := h.top
  have hlt := h.lt
  refine ⟨h.below.setCell (by show w.heap.size ≤ g; omega) _, by simpa [World.setCell] using h.size, h.lt, ⟨V, h1.setOther (by show w.heap.size ≠ g; omega) _, fun j hj => ?_, h3⟩, (h.cur.set m _).congr (fun i _ => ?_)⟩
  · obtain ⟨wo, q1, q2, q3⟩ := h2 j hj
    exact ⟨wo, q1, fun i hi => (Below.heap_setCell _ _ _ _ (by show i ≠ g; omega)).trans (q2 i hi), q3⟩
  · by_cases e : i = m
    · subst e; simp
    · rw [if_neg e]
      by_cases hlt : i < m
      · rw [if_pos hlt, if_pos (by omega)]
      · rw [if_neg hlt, if_neg (by omega)]

theorem copy_out {w wr : World} {n k g : Nat} {L : Nat → Nat} {Z : Nat → Nat → Int} (h : CInner w wr n k g (L k) L Z) : COuter w (wr.setCell ⟨w.heap.size, k, none⟩ (.slice (some ⟨g, 0, none⟩) (L k) (L k))) n (k + 1) L Z := by
  obtain ⟨V, h1, h2, h3⟩ := h.top
  have hsz := h.size
  have hlt := h.lt
  refine ⟨h.below.setCell (Nat.le_refl _) _, by simp [World.setCell]; omega, _, h1.set k _, fun j hj => ?_, fun j hj => ?_⟩
  · by_cases e : j = k
    · subst e
      rw [if_pos rfl]
      exact .inr ⟨g, rfl, h.lt, by simp [World.setCell]; omega, (h.cur.congr (fun c hc => by rw [if_pos hc])).setOther (by show g ≠ w.heap.size; omega) _⟩
    · rw [if_neg e]
      obtain ⟨wo, q1, q2, q3⟩ := h2 j (by omega)
      refine RowNew.setTop ?_ _ _
      rcases q3 with q3 | ⟨g', r1, r2, r3, r4⟩
      · exact .inl q3
      · exact .inr ⟨g', r1, r2, by omega, r4.of_block (q2 g' (by omega))⟩
  · rw [if_neg (by omega)]; exact h3 j (by omega)

/-- WHAT copyGraph LEAVES. -/
def CopyPost (w : World) (n : Nat) (L : Nat → Nat) (Z : Nat → Nat → Int) (e : Ending) (w' : World) : Prop :=
  ∃ (a' : Option Addr) (cap' b' off' : Nat) (A' : Nat → Option Addr) (C' GB' GO' : Nat → Nat), e = .returned (.slice a' n cap') ∧ GraphAt w' a' b' off' n A' L C' GB' GO' Z ∧ Below w.heap.size w w'

theorem copy_end {w wr : World} {n : Nat} {L : Nat → Nat} {Z : Nat → Nat → Int} (h : COuter w wr n n L Z) : CopyPost w n L Z (.returned (.slice (some ⟨w.heap.size, 0, none⟩) n n)) wr := by
  obtain ⟨V, h1, h2, _⟩ := h.top
  have each : ∀ r, r < n → ∃ y : Option Addr × Nat × Nat, V r = .slice y.1 (L r) y.2.1 ∧ ∀ c, c < L r → y.1 = some ⟨y.2.2, 0, none⟩ ∧ wr.cell? ⟨y.2.2, 0 + c, none⟩ = some (.int .i64 (Z r c)) := fun r hr => by
    rcases h2 r hr with ⟨q1, q2⟩ | ⟨g, q1, _, _, q4⟩
    · exact ⟨(none, 0, 0), by rw [q1, q2], fun c hc => by omega⟩
    · exact ⟨(some ⟨g, 0, none⟩, L r, g), q1, fun c hc => ⟨rfl, by rw [Nat.zero_add]; exact q4.cell hc⟩⟩
  obtain ⟨y, hy⟩ := Go.Deep.choose_lt each
  exact ⟨_, _, w.heap.size, 0, fun r => (y r).1, fun r => (y r).2.1, fun r => (y r).2.2, fun _ => 0, rfl, ⟨fun _ => rfl, fun r hr => by rw [Nat.zero_add, h1.cell hr, (hy r hr).1], fun r hr c hc => (hy r hr).2 c hc⟩, h.below⟩

set_option maxHeartbeats 400000 in
theorem copyGraph_any (w : World) (a : Option Addr) (b off n cap : Nat) (A : Nat → Option Addr) (L C GB GO : Nat → Nat) (Z : Nat → Nat → Int) (hn : n ≤ 65536) (hL : ∀ r, r < n → L r ≤ 1048576) (hz : a = none → n = 0) (hAz : ∀ r, r < n → A r = none → L r = 0) (h : GraphAt w a b off n A L C GB GO Z) :
    Calls Try.prog 10 #[.slice a n cap] w fun e w' => CopyPost w n L Z e w' := by
  have q22 : ∀ (w : World) (a : Option Addr) (n c n' c' : Nat), (binOp .eql 22 (.slice a n c) (.slice none n' c')).run Try.prog w = .ok (.bool a.isNone) w := fun w a n c n' c' => Lib.run_eql_slice_nil w _ _ a n c n' c' Try.underlying22
  have q25 : ∀ (w : World) (a : Option Addr) (n c n' c' : Nat), (binOp .neq 25 (.slice a n c) (.slice none n' c')).run Try.prog w = .ok (.bool (!a.isNone)) w := fun w a n c n' c' => run_neq_slice_nil_any w _ _ a n c n' c' Try.underlying25
  have hmk22 := run_make_row' (P := Try.prog) 22 25 (.slice none 0 0) 24 Try.underlying22 info25 rfl .i64 .i64 n (by omega) (by omega)
  cases a with
  | none =>
    obtain rfl := hz rfl
    clear hmk22
    go_enter Try.func10, Try.ntmps10
    go_wp2
    go_ret
    exact ⟨none, 0, 0, 0, A, C, GB, GO, rfl, ⟨fun hh => by omega, fun r hr => by omega, fun r hr => by omega⟩, Below.refl _ _⟩
  | some ad =>
    go_enter Try.func10, Try.ntmps10
    go_wp2
    have H0 := copy_start w n L Z
    go_loopw [4] (fun i wr => ∃ k : Nat, k ≤ n ∧ i = .int .i64 k ∧ COuter w wr n k L Z) (fun i _ => n - (intOf i).toNat)
    case atStart => exact ⟨0, Nat.zero_le _, rfl, H0⟩
    case round =>
      obtain ⟨k, hk, rfl, hO⟩ := hrel
      clear H0 hmk22 q22
      by_cases hlt : k < n
      · obtain ⟨rfl⟩ := Option.some.inj (h.at' (by omega))
        have hc0 := h.row k hlt
        have hbl := World.block_lt_of_cell? _ _ hc0
        have hc : wr.cell? ⟨b, off + k, none⟩ = some (.slice (A k) (L k) (C k)) := (hO.below.cell (p := ⟨b, off + k, none⟩) hbl).trans hc0
        have hl := hL k hlt
        have hAk := hAz k hlt
        rcases hA : A k with _ | ad
        · have hl0 := hAk hA
          rw [hA, hl0] at hc
          have H1 := copy_nil hO hl0
          clear h hL hz hAz hAk hO hc0 hA hl0
          go_wp2
          go_roundw
          case rel => exact ⟨k + 1, by omega, by go_num, H1⟩
          case measure => simp [intOf]; omega
        · rw [hA] at hc
          have hmk25 := run_make_row' (P := Try.prog) 25 3 (.int .i64 0) 8 Try.underlying25 info3 rfl .i64 .i64 (L k) (by omega) (by omega)
          have HI := copy_in hO
          clear hz hAz hAk hc0
          go_wp2
          clear hmk25 hc hO
          obtain ⟨wo, rfl⟩ : ∃ wo : World, wo = wr := ⟨_, rfl⟩
          go_loopw [6] (fun j wi => ∃ m : Nat, m ≤ L k ∧ j = .int .i64 m ∧ CInner w wi n k wo.heap.size m L Z) (fun j _ => L k - (intOf j).toNat)
          case atStart => exact ⟨0, Nat.zero_le _, rfl, HI⟩
          case round =>
            obtain ⟨m, hm, rfl, hI⟩ := hrel
            clear HI
            have hc : wr.cell? ⟨b, off + k, none⟩ = some (.slice (some ad) (L k) (C k)) := (hI.below.cell (p := ⟨b, off + k, none⟩) hbl).trans (by rw [h.row k hlt, hA])
            by_cases hml : m < L k
            · obtain ⟨hA', hcell0⟩ := h.cell k hlt m hml
              rw [hA] at hA'
              obtain rfl := Option.some.inj hA'
              have hcell : wr.cell? ⟨GB k, GO k + m, none⟩ = some (.int .i64 (Z k m)) := (hI.below.cell (p := ⟨GB k, GO k + m, none⟩) (World.block_lt_of_cell? _ _ hcell0)).trans hcell0
              have hw1 := hI.cur.cell hml
              have hw2 := hI.cur.frozen m
              have H1 := copy_step hI
              clear h hL hI hA hA' hcell0
              go_wp2
              go_roundw
              case rel => exact ⟨m + 1, by omega, by go_num, H1⟩
              case measure => simp [intOf]; omega
            · have hmk : m = L k := by omega
              subst hmk
              obtain ⟨V, hV, _, _⟩ := hI.top
              have hw1 := hV.cell hlt
              have hw2 := hV.frozen k
              have H1 := copy_out hI
              clear h hL hI hA hV
              go_wp2
              go_roundw
              case rel => exact ⟨k + 1, by omega, by go_num, H1⟩
              case measure => simp [intOf]; omega
      · have hkn : k = n := by omega
        subst hkn
        clear h hL hz hAz
        go_wp2
        go_ret
        exact copy_end hO

end Go.Proofs.Qxb6601949a.Fc
