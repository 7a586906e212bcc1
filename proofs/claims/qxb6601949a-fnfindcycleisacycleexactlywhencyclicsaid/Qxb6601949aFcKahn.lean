/- THE WALK of acyclicByKahn. -/
import Derived.Test.Qxb6601949aFcCopy
namespace Go.Proofs.Qxb6601949a.Fc
open Go.RowKit

/-! ### The plain parts that the walk's forms want -/
def firstOnes (L : Nat → Nat) (k : Nat) : Nat → Nat := fun u => if u < k then L u else 0
theorem upd_upd (f : Nat → Nat) (i x y : Nat) : upd (upd f i x) i y = upd f i y := by
  funext j; simp only [upd]; split <;> rfl
theorem ones_start (L : Nat → Nat) (k : Nat) : upd (firstOnes L k) k 0 = firstOnes L k := by
  funext j; simp only [upd, firstOnes]
  by_cases e : j = k
  · subst e; simp
  · rw [if_neg e]
theorem ones_end (L : Nat → Nat) (k : Nat) : upd (firstOnes L k) k (L k) = firstOnes L (k + 1) := by
  funext j; simp only [upd, firstOnes]
  by_cases e : j = k
  · subst e; simp
  · rw [if_neg e]
    by_cases h : j < k
    · rw [if_pos h, if_pos (by omega)]
    · rw [if_neg h, if_neg (by omega)]
theorem indeg_congr {n : Nat} {E : Nat → Nat → Nat} {lo hi hi' : Nat → Nat} {v : Nat} (h : ∀ u, u < n → hi u = hi' u) : indeg n E lo hi v = indeg n E lo hi' v :=
  sumTo_congr n (fun u hu => by rw [h u hu])
theorem ones_all {n : Nat} {E : Nat → Nat → Nat} {L : Nat → Nat} {v : Nat} : indeg n E (fun _ => 0) (firstOnes L n) v = indeg n E (fun _ => 0) L v :=
  indeg_congr (fun u hu => by simp [firstOnes, hu])
theorem ones_none {n : Nat} {E : Nat → Nat → Nat} {L : Nat → Nat} {v : Nat} : indeg n E (fun _ => 0) (firstOnes L 0) v = 0 :=
  (indeg_zero _ _ _ _ _).2 (fun u _ c _ hc => by simp [firstOnes] at hc)
theorem ones_step {n : Nat} {E : Nat → Nat → Nat} {L : Nat → Nat} {k m v : Nat} (hk : k < n) :
    indeg n E (fun _ => 0) (upd (firstOnes L k) k (m + 1)) v = indeg n E (fun _ => 0) (upd (firstOnes L k) k m) v + if E k m = v then 1 else 0 := by
  have h := indeg_more n E (upd (firstOnes L k) k m) k v hk
  rw [upd_same, upd_upd] at h
  exact h
theorem sumL_le (L : Nat → Nat) (n : Nat) : 8 * sumTo L n ≤ sumTo (fun r => 24 + 8 * L r) n := by
  induction n with
  | zero => simp [sumTo]
  | succ n ih => simp only [sumTo]; omega

/-! ### The world's facts -/
structure K1 (w wr : World) (n : Nat) (I : Nat → Nat) : Prop where
  below : Below w.heap.size w wr
  size : wr.heap.size = w.heap.size + 1
  row : wr.rowIs w.heap.size 3 n (fun v => .int .i64 (I v))
theorem K1.step {w wr : World} {n : Nat} {I J : Nat → Nat} (h : K1 w wr n I) (v : Nat) (x : Int) (hx : x = J v) (hJ : ∀ u, u < n → u ≠ v → J u = I u) : K1 w (wr.setCell ⟨w.heap.size, v, none⟩ (.int .i64 x)) n J := by
  refine ⟨h.below.setCell (Nat.le_refl _) _, by simpa [World.setCell] using h.size, (h.row.set v _).congr (fun u hu => ?_)⟩
  by_cases e : u = v
  · subst e; rw [if_pos rfl, hx]
  · rw [if_neg e, hJ u hu e]
theorem K1.congr {w wr : World} {n : Nat} {I J : Nat → Nat} (h : K1 w wr n I) (hJ : ∀ u, u < n → I u = J u) : K1 w wr n J :=
  ⟨h.below, h.size, h.row.congr (fun u hu => by rw [hJ u hu])⟩

structure KW (w wr : World) (n : Nat) (I : Nat → Nat) (q : List Nat) : Prop where
  below : Below w.heap.size w wr
  size : w.heap.size + 1 < wr.heap.size
  row : wr.rowIs w.heap.size 3 n (fun v => .int .i64 (I v))
  own : wr.ownsRow (w.heap.size + 1) 3 1 (.slice (some ⟨w.heap.size + 1, 0, none⟩) q.length n) q.length (q.map fun v : Nat => .int .i64 (v : Int))
theorem KW.start {w wr : World} {n : Nat} {I : Nat → Nat} (h : K1 w wr n I) (hn : n ≤ 65536) : KW w (wr.alloc (.cells (madeCells #[.int .i64 0] n) 3)) n I [] := by
  have hs := h.size
  have hm := World.ownsRow_made (base := w.heap.size + 1) (e := 3) (size := 1) wr (madeCells #[.int .i64 0] n) n (by omega) (by unfold maxLen; omega) (by simp [size_madeCells])
  rw [hs] at hm
  exact ⟨h.below.alloc (by omega) _, by simp; omega, h.row.alloc _, hm⟩
theorem KW.congr {w wr : World} {n : Nat} {I J : Nat → Nat} {q : List Nat} (h : KW w wr n I q) (hJ : ∀ u, u < n → I u = J u) : KW w wr n J q :=
  ⟨h.below, h.size, h.row.congr (fun u hu => by rw [hJ u hu]), h.own⟩
theorem KW.store {w wr : World} {n : Nat} {I J : Nat → Nat} {q : List Nat} (h : KW w wr n I q) (v : Nat) (x : Int) (hx : x = J v) (hJ : ∀ u, u < n → u ≠ v → J u = I u) : KW w (wr.setCell ⟨w.heap.size, v, none⟩ (.int .i64 x)) n J q := by
  refine ⟨h.below.setCell (Nat.le_refl _) _, by simpa [World.setCell] using h.size, (h.row.set v _).congr (fun u hu => ?_), ownsRow_setCell_below h.own (by show w.heap.size < w.heap.size + 1; omega) _⟩
  by_cases e : u = v
  · subst e; rw [if_pos rfl, hx]
  · rw [if_neg e, hJ u hu e]
theorem KW.push {w wr w1 : World} {n : Nat} {I : Nat → Nat} {q : List Nat} {x : Nat} {o : Obj} (h : KW w wr n I q)
    (hown : w1.ownsRow (w.heap.size + 1) 3 1 (.slice (some ⟨w.heap.size + 1, 0, none⟩) (q.length + 1) n) (q.length + 1) ((q.map fun v : Nat => .int .i64 (v : Int)) ++ [.int .i64 (x : Int)]))
    (hg : (wr.alloc o).grownBy w1 (some (w.heap.size + 1))) : KW w w1 n I (q ++ [x]) := by
  have hsz := h.size
  have hsz1 := hg.size
  simp at hsz1
  refine ⟨(h.below.alloc (by omega) o).grown hg (by simp; omega) (fun k hk => by cases hk; omega), by omega, (h.row.alloc o).of_block (hg.block _ (by simp; omega) (by simp)), by simpa using hown⟩
theorem KW.cell {w wr : World} {n : Nat} {I : Nat → Nat} {q : List Nat} (h : KW w wr n I q) {p u : Nat} (hp : q[p]? = some u) : wr.cell? ⟨w.heap.size + 1, p, none⟩ = some (.int .i64 (u : Int)) := by
  have hlt := (List.getElem?_eq_some_iff.1 hp).1
  rw [h.own.cellAt p (by omega), List.getElem?_map, hp]
  rfl

/-- WHAT acyclicByKahn LEAVES. -/
def KahnPost (n : Nat) (L : Nat → Nat) (E : Nat → Nat → Nat) (e : Ending) : Prop :=
  ∃ v : Bool, e = .returned (.bool v) ∧ (Ranked n L E → v = true) ∧ (v = true → RankedUp n L E)
theorem kahnPost_mk {n : Nat} {L : Nat → Nat} {E : Nat → Nat → Nat} (hE : ∀ u, u < n → ∀ c, c < L u → E u c < n) {lo : Nat → Nat} {q : List Nat} (k : Kahn n L E lo q q.length) (v : Bool) (hv : v = ((q.length : Int) == (n : Int))) : KahnPost n L E (.returned (.bool v)) := by
  subst hv
  refine ⟨_, rfl, fun hr => ?_, fun h => ?_⟩
  · rw [kahn_all k hr]; simp
  · simp at h; exact kahn_up hE k (by omega)

/-- The one new cell of 'append(xs, x)', its block's number said otherwise. -/
theorem one_new {W : World} {b : Nat} (hb : b = W.heap.size) (v : Value) (t : TypeId) : ∀ j u, [v][j]? = some u → (W.alloc (.cells #[v] t)).cell? ((⟨b, 0, none⟩ : Addr).add j) = some u := by
  subst hb; exact cell_one_new W v t

set_option maxHeartbeats 1000000 in
theorem kahn_any (w : World) (a : Option Addr) (b off n cap : Nat) (A : Nat → Option Addr) (L C GB GO : Nat → Nat) (E : Nat → Nat → Nat) (hn : n ≤ 65536) (hL : ∀ r, r < n → L r ≤ 1048576) (hS : sumTo L n ≤ 1048576) (hE : ∀ u, u < n → ∀ c, c < L u → E u c < n)
    (h : GraphAt w a b off n A L C GB GO (fun r c => (E r c : Int))) :
    Calls Try.prog 12 #[.slice a n cap] w fun e w' => KahnPost n L E e ∧ Below w.heap.size w w' := by
  obtain ⟨i0, hi, hz0, hz1, hz2⟩ := info_parts info3
  have hmk25 := run_make_row' (P := Try.prog) 25 3 (.int .i64 0) 8 Try.underlying25 info3 rfl .i64 .i64 n (by omega) (by omega)
  have hmk0 : ∀ w : World, (Instr.makeSlice 25 (.int .i64 0) (.int .i64 (n : Int))).run Try.prog w = .ok (.slice (some ⟨w.heap.size, 0, none⟩) 0 n) (w.alloc (.cells (madeCells #[.int .i64 0] n) 3)) := fun w => by
    have := run_make (P := Try.prog) w 25 3 i0 (.int .i64 0) Try.underlying25 hi hz0 .i64 .i64 0 n (by omega) (by omega) (by rw [hz2]; omega) (by omega)
    simpa [hz1, Value.cells] using this
  go_enter Try.func12, Try.ntmps12
  go_wp2
  have H0 : K1 w (w.alloc (.cells (madeCells #[.int .i64 0] n) 3)) n (indeg n E (fun _ => 0) (firstOnes L 0)) := ⟨(Below.refl _ _).alloc (Nat.le_refl _) _, by simp, (World.rowIs_made w _ n 3).congr (fun v _ => by rw [ones_none]; rfl)⟩
  clear hmk25
  go_loopw [5] (fun i wr => ∃ k : Nat, k ≤ n ∧ i = .int .i64 k ∧ K1 w wr n (indeg n E (fun _ => 0) (firstOnes L k))) (fun i _ => n - (intOf i).toNat)
  case atStart => exact ⟨0, Nat.zero_le _, rfl, H0⟩
  case round =>
    obtain ⟨k, hk, rfl, hO⟩ := hrel
    clear H0
    by_cases hlt : k < n
    · obtain rfl := h.at' (by omega)
      have hbl := World.block_lt_of_cell? _ _ (h.row k hlt)
      have hl := hL k hlt
      have HI : K1 w wr n (indeg n E (fun _ => 0) (upd (firstOnes L k) k 0)) := by rw [ones_start]; exact hO
      clear hO hmk0
      go_wp2
      obtain ⟨wo, rfl⟩ : ∃ wo : World, wo = wr := ⟨_, rfl⟩
      go_loopw [6] (fun j wi => ∃ m : Nat, m ≤ L k ∧ j = .int .i64 m ∧ K1 w wi n (indeg n E (fun _ => 0) (upd (firstOnes L k) k m))) (fun j _ => L k - (intOf j).toNat)
      case atStart => exact ⟨0, Nat.zero_le _, rfl, HI⟩
      case round =>
        obtain ⟨m, hm, rfl, hI⟩ := hrel
        clear HI
        have hc : wr.cell? ⟨b, off + k, none⟩ = some (.slice (A k) (L k) (C k)) := (hI.below.cell (p := ⟨b, off + k, none⟩) hbl).trans (h.row k hlt)
        by_cases hml : m < L k
        · obtain ⟨hA', hcell0⟩ := h.cell k hlt m hml
          rw [hA'] at hc
          have hcell : wr.cell? ⟨GB k, GO k + m, none⟩ = some (.int .i64 (E k m)) := (hI.below.cell (p := ⟨GB k, GO k + m, none⟩) (World.block_lt_of_cell? _ _ hcell0)).trans hcell0
          have hx : E k m < n := hE k hlt m hml
          have hw1 := hI.row.cell hx
          have hw2 := hI.row.frozen (E k m)
          have hbd := indeg_le n E (fun _ => 0) (upd (firstOnes L k) k m) (E k m)
          have hbd2 : sumTo (upd (firstOnes L k) k m) n ≤ sumTo L n := sumTo_le n (fun u hu => by
            simp only [upd, firstOnes]
            by_cases e : u = k
            · subst e; rw [if_pos rfl]; omega
            · rw [if_neg e]; split <;> omega)
          have H1 : ∀ x : Int, x = (indeg n E (fun _ => 0) (upd (firstOnes L k) k m) (E k m) : Int) + 1 → K1 w (wr.setCell ⟨w.heap.size, E k m, none⟩ (.int .i64 x)) n (indeg n E (fun _ => 0) (upd (firstOnes L k) k (m + 1))) := fun x hx => hI.step (E k m) x (by rw [hx, ones_step hlt, if_pos rfl]; rfl) (fun u _ hne => by rw [ones_step hlt, if_neg (fun e => hne e.symm)]; rfl)
          generalize hD : indeg n E (fun _ => 0) (upd (firstOnes L k) k m) (E k m) = D at *
          clear h hL hI hA' hcell0 hE hD
          go_wp2
          go_roundw
          case rel => exact ⟨m + 1, by omega, by go_num, H1 _ rfl⟩
          case measure => simp [intOf]; omega
        · have hmk : m = L k := by omega
          subst hmk
          rw [ones_end] at hI
          clear h hL hE
          go_wp2
          go_roundw
          case rel => exact ⟨k + 1, by omega, by go_num, hI⟩
          case measure => simp [intOf]; omega
    · have hkn : k = n := by omega
      subst hkn
      have hO' := hO.congr (fun u _ => ones_all (E := E) (v := u))
      have hsz := hO.size
      have H2 := KW.start hO' (by omega)
      clear hO hO'
      go_wp2
      obtain ⟨wo, rfl⟩ : ∃ wo : World, wo = wr := ⟨_, rfl⟩
      clear hmk0
      -- THE SECOND LOOP: the nodes that no edge leads to
      go_loopw [7, 8] (fun t i wr => ∃ (c : Nat) (q : List Nat), c ≤ k ∧ i = .int .i64 c ∧ t = .slice (some ⟨w.heap.size + 1, 0, none⟩) q.length k ∧ Start k L E q c ∧ KW w wr k (indeg k E (fun _ => 0) L) q) (fun _ i _ => k - (intOf i).toNat)
      case atStart => exact ⟨0, [], Nat.zero_le _, rfl, rfl, start_zero _ _ _, H2⟩
      case round =>
        obtain ⟨c, q, hck, rfl, rfl, hst, hkw⟩ := hrel
        clear H2 hsz
        have hql := start_len hst
        by_cases hcn : c < k
        · have hw1 := hkw.row.cell hcn
          have hS1 : Hid (indeg k E (fun _ => 0) L c = 0 → Start k L E (q ++ [c]) (c + 1)) := fun h0 => start_push hst h0
          have hS2 : Hid (indeg k E (fun _ => 0) L c ≠ 0 → Start k L E q (c + 1)) := fun h0 => start_skip hst h0
          have hbd := indeg_le k E (fun _ => 0) L c
          have hown := hkw.own
          clear h hL hE hst
          generalize hD : indeg k E (fun _ => 0) L c = D at *
          by_cases hD0 : D = 0
          · subst hD0
            go_wp2_with (at_builtin; refine wpList_append_fits _ rfl (.tmp 55) (.tmp 57) 25 rfl (w.heap.size + 1) 3 i0 1 Try.underlying25 hi hz1 (w.heap.size + 1) q.length k _ rfl (hown.alloc _) ⟨wr.heap.size, 0, none⟩ 1 1 [.int .i64 (c : Int)] rfl rfl (cell_one_new _ _ _) (by intro u hu; simp at hu; subst hu; rfl) (by omega) ?_; intro w1 hown1 hgrow1)
            have HK := hkw.push hown1 hgrow1
            go_roundw
            case rel => exact ⟨c + 1, q ++ [c], by omega, by go_num, by simp, hS1.out rfl, HK⟩
            case measure => simp [intOf]; omega
          · have hb : ((D : Int) == 0) = false := by simp; omega
            clear hown
            go_wp2
            go_roundw
            case rel => exact ⟨c + 1, q, by omega, by go_num, rfl, hS2.out hD0, hkw⟩
            case measure => simp [intOf]; omega
        · obtain rfl : c = k := by omega
          have HK := kahn_start hst
          clear hst
          go_wp2
          obtain ⟨wo2, rfl⟩ : ∃ wo : World, wo = wr := ⟨_, rfl⟩
          -- THE MAIN LOOP
          go_loopw [7, 9] (fun t i wr => ∃ (hd : Nat) (q : List Nat) (lo : Nat → Nat), hd ≤ q.length ∧ i = .int .i64 hd ∧ t = .slice (some ⟨w.heap.size + 1, 0, none⟩) q.length c ∧ Kahn c L E lo q hd ∧ (∀ u : Nat, q[hd]? = some u → lo u = 0) ∧ KW w wr c (indeg c E lo L) q) (fun _ i _ => c - (intOf i).toNat)
          case atStart => exact ⟨0, q, _, Nat.zero_le _, rfl, rfl, HK, fun _ _ => rfl, hkw⟩
          case round =>
            clear HK hkw hql
            obtain ⟨hd, q, lo, hhd, rfl, rfl, hK, h0, hkw⟩ := hrel
            have hql := kahn_len hK
            by_cases hlt2 : hd < q.length
            · obtain ⟨u, hu⟩ : ∃ u : Nat, q[hd]? = some u := ⟨q[hd], List.getElem?_eq_getElem hlt2⟩
              have hun : u < c := hK.lt u (List.mem_of_getElem? hu)
              obtain rfl := h.at' (by omega)
              have hbl := World.block_lt_of_cell? _ _ (h.row u hun)
              have hl := hL u hun
              have hlo0 := h0 u hu
              have hqc := hkw.cell hu
              have HU : Hid (q[hd]? = some u) := hu
              have HL0 : Hid (lo u = 0) := hlo0
              clear h0 hu hlo0
              go_wp2
              clear hqc
              obtain ⟨wo3, rfl⟩ : ∃ wo : World, wo = wr := ⟨_, rfl⟩
              go_loopw [7, 11] (fun t j wr => ∃ (q : List Nat) (lo : Nat → Nat), lo u ≤ L u ∧ Hid (q[hd]? = some u) ∧ j = .int .i64 (lo u) ∧ t = .slice (some ⟨w.heap.size + 1, 0, none⟩) q.length c ∧ Kahn c L E lo q hd ∧ KW w wr c (indeg c E lo L) q) (fun _ j _ => L u - (intOf j).toNat)
              case atStart => exact ⟨q, lo, by rw [HL0.out]; omega, HU, by rw [HL0.out]; rfl, rfl, hK, hkw⟩
              case round =>
                clear hK hkw HU HL0 hql hlt2 hhd
                obtain ⟨q, lo, hm, HU, rfl, rfl, hK, hkw⟩ := hrel
                have hql := kahn_len hK
                have hlt2 : hd < q.length := (List.getElem?_eq_some_iff.1 HU.out).1
                have hc : wr.cell? ⟨b, off + u, none⟩ = some (.slice (A u) (L u) (C u)) := (hkw.below.cell (p := ⟨b, off + u, none⟩) hbl).trans (h.row u hun)
                by_cases hml : lo u < L u
                · obtain ⟨hA', hcell0⟩ := h.cell u hun (lo u) hml
                  rw [hA'] at hc
                  have hcell : wr.cell? ⟨GB u, GO u + lo u, none⟩ = some (.int .i64 (E u (lo u))) := (hkw.below.cell (p := ⟨GB u, GO u + lo u, none⟩) (World.block_lt_of_cell? _ _ hcell0)).trans hcell0
                  have hx : E u (lo u) < c := hE u hun _ hml
                  have hw1 := hkw.row.cell hx
                  have hw2 := hkw.row.frozen (E u (lo u))
                  have hbd := indeg_le c E lo L (E u (lo u))
                  have hD1 := indeg_less c E lo L u (E u (lo u)) hun hml
                  rw [if_pos rfl] at hD1
                  have HS : KW w (wr.setCell ⟨w.heap.size, E u (lo u), none⟩ (.int .i64 (indeg c E (upd lo u (lo u + 1)) L (E u (lo u)) : Int))) c (indeg c E (upd lo u (lo u + 1)) L) q := hkw.store (E u (lo u)) _ rfl (fun v _ hne => by
                    have := indeg_less c E lo L u v hun hml
                    rw [if_neg (fun e => hne e.symm)] at this
                    omega)
                  have HP : Hid (indeg c E (upd lo u (lo u + 1)) L (E u (lo u)) = 0 → Kahn c L E (upd lo u (lo u + 1)) (q ++ [E u (lo u)]) hd) := fun hz => kahn_push hE hK HU.out hml hz
                  have HN : Hid (indeg c E (upd lo u (lo u + 1)) L (E u (lo u)) ≠ 0 → Kahn c L E (upd lo u (lo u + 1)) q hd) := fun hz => kahn_keep hK HU.out hml hz
                  have HU2 : Hid ((q ++ [E u (lo u)])[hd]? = some u) := by
                    have h1 := HU.out
                    show (q ++ [E u (lo u)])[hd]? = some u
                    rw [getElem?_snoc, if_neg (by omega)]; exact h1
                  have hlo' : Hid (upd lo u (lo u + 1) u = lo u + 1) := upd_same _ _ _
                  rw [hD1] at hw1 hbd
                  have hlen1 : Hid ((q ++ [E u (lo u)]).length = q.length + 1) := by show _ = _; simp
                  have hlt3 : q.length < c := by
                    rcases Nat.lt_or_ge q.length c with hh | hh
                    · exact hh
                    · exfalso
                      have hxq : E u (lo u) ∈ q := by
                        refine Classical.byContradiction fun hnq => ?_
                        have h1 := List.Nodup.length_le_of_subset (l₁ := E u (lo u) :: q) (l₂ := List.range c) (List.nodup_cons.2 ⟨hnq, hK.nodup⟩) (fun v hv => by
                          rcases List.mem_cons.1 hv with rfl | hv
                          · exact List.mem_range.2 hx
                          · exact List.mem_range.2 (hK.lt v hv))
                        simp at h1
                        omega
                      have := (hK.iff _ hx).1 hxq
                      omega
                  clear h hL hE hK hkw hA' hcell0 hD1
                  generalize indeg c E (upd lo u (lo u + 1)) L (E u (lo u)) = D at *
                  have hw1' : wr.cell? ⟨w.heap.size, E u (lo u), none⟩ = some (.int .i64 ((D : Int) + 1)) := hw1
                  clear hw1
                  by_cases hD0 : D = 0
                  · have hb : ((D : Int) == 0) = true := by simp; omega
                    have hown := HS.own
                    have HD0 : Hid (D = 0) := hD0
                    clear hD0
                    go_wp2_with (at_builtin; refine wpList_append_fits _ rfl (.tmp 96) (.tmp 98) 25 rfl (w.heap.size + 1) 3 i0 1 Try.underlying25 hi hz1 (w.heap.size + 1) q.length c _ rfl (hown.alloc _) ⟨wr.heap.size, 0, none⟩ 1 1 [.int .i64 (E u (lo u) : Int)] rfl rfl (one_new (by simp) _ _) (by intro u hu; simp at hu; subst hu; rfl) (by omega) ?_; intro w1 hown1 hgrow1)
                    have HK := HS.push hown1 hgrow1
                    go_roundw
                    case rel => exact ⟨q ++ [E u (lo u)], upd lo u (lo u + 1), by rw [hlo'.out]; omega, HU2, by rw [hlo'.out]; go_num, by rw [hlen1.out], HP.out HD0.out, HK⟩
                    case measure => simp [intOf]; omega
                  · have hb : ((D : Int) == 0) = false := by simp; omega
                    go_wp2
                    go_roundw
                    case rel => exact ⟨q, upd lo u (lo u + 1), by rw [hlo'.out]; omega, HU, by rw [hlo'.out]; go_num, rfl, HN.out hD0, HS⟩
                    case measure => simp [intOf]; omega
                · have HF := kahn_next hK HU.out (by omega)
                  have HF0 : ∀ v : Nat, q[hd + 1]? = some v → lo v = 0 := fun v hv => hK.fresh (hd + 1) v (by omega) hv
                  clear h hL hE
                  go_wp2
                  go_roundw
                  case rel => exact ⟨hd + 1, q, lo, by omega, by go_num, rfl, HF, HF0, hkw⟩
                  case measure => simp [intOf]; omega
            · obtain rfl : hd = q.length := by omega
              have hbel := hkw.below
              clear hkw
              go_wp2
              go_ret
              exact ⟨kahnPost_mk hE hK _ rfl, hbel⟩

end Go.Proofs.Qxb6601949a.Fc
