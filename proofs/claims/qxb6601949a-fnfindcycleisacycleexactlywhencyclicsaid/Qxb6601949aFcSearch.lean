/- THE WALK of findCycle. -/
import Derived.Test.Qxb6601949aFcFind
import Derived.WalkSmall
namespace Go.Proofs.Qxb6601949a.Fc
open Go.RowKit

theorem info5 : (Try.prog.info? 5).map (fun i => (i.zero, i.size, i.bytes)) = some (some (.int .u8 0), 1, 1) := by kernel_rfl
theorem info101 : (Try.prog.info? 101).map (fun i => (i.zero, i.size, i.bytes)) = some (some (.agg #[.int .i64 0, .int .i64 0]), 2, 16) := by kernel_rfl

/-- The world in the search: nothing old has turned; the states lie in the first new block; the path is the call's own. -/
structure FW (w wr : World) (n : Nat) (st : Nat → Nat) (v : Value) (p : List (Nat × Nat)) : Prop where
  below : Below w.heap.size w wr
  size : w.heap.size < wr.heap.size
  row : wr.rowIs w.heap.size 5 n (fun u => .int .u8 (st u : Int))
  own : wr.ownsRow (w.heap.size + 1) 101 2 v p.length (flat p)

theorem FW.start (w : World) (n : Nat) : FW w (w.alloc (.cells (madeCells #[.int .u8 0] n) 5)) n (fun _ => 0) (.slice none 0 0) [] :=
  ⟨(Below.refl _ _).alloc (Nat.le_refl _) _, by simp, World.rowIs_made w _ n 5, World.ownsRow_nil _ _ _ _⟩
theorem FW.alloc {w wr : World} {n : Nat} {st : Nat → Nat} {v : Value} {p : List (Nat × Nat)} (h : FW w wr n st v p) (o : Obj) : FW w (wr.alloc o) n st v p :=
  ⟨h.below.alloc (by have := h.size; omega) _, by have := h.size; simp; omega, h.row.alloc _, h.own.alloc _⟩
theorem FW.drew {w wr : World} {n : Nat} {st : Nat → Nat} {v : Value} {p : List (Nat × Nat)} (h : FW w wr n st v p) : FW w wr.drew n st v p :=
  ⟨h.below.drew, h.size, h.row, h.own⟩
theorem FW.drewN {w wr : World} {n : Nat} {st : Nat → Nat} {v : Value} {p : List (Nat × Nat)} (h : FW w wr n st v p) (k : Nat) : FW w (wr.drewN k) n st v p :=
  ⟨below_drewN h.below k, h.size, h.row, h.own⟩
theorem FW.mark {w wr : World} {n : Nat} {st : Nat → Nat} {v : Value} {p : List (Nat × Nat)} (h : FW w wr n st v p) (u x : Nat) : FW w (wr.setCell ⟨w.heap.size, u, none⟩ (.int .u8 (x : Int))) n (upd st u x) v p := by
  refine ⟨h.below.setCell (Nat.le_refl _) _, by simpa [World.setCell] using h.size, (h.row.set u _).congr (fun i _ => ?_), ownsRow_setCell_below h.own (by show w.heap.size < w.heap.size + 1; omega) _⟩
  simp only [upd]
  split <;> rfl
theorem FW.pop {w wr : World} {n : Nat} {st : Nat → Nat} {g cap v e : Nat} {p : List (Nat × Nat)} (h : FW w wr n st (.slice (some ⟨g, 0, none⟩) (p.length + 1) cap) (p ++ [(v, e)])) : FW w wr n st (.slice (some ⟨g, 0, none⟩) p.length cap) p := by
  refine ⟨h.below, h.size, h.row, ?_⟩
  have ho := h.own
  rw [flat_append] at ho
  simp only [List.length_append, List.length_cons, List.length_nil] at ho
  exact ownsRow_pop (flat_length p) ho
theorem flat_set (p : List (Nat × Nat)) (v e e' : Nat) : (flat (p ++ [(v, e)])).set (p.length * 2 + 1) (.int .i64 (e' : Int)) = flat (p ++ [(v, e')]) := by
  rw [flat_append, flat_append, List.set_append, if_neg (by rw [flat_length]; omega), flat_length, show p.length * 2 + 1 - p.length * 2 = 1 by omega]
  rfl
theorem FW.ge {w wr : World} {n : Nat} {st : Nat → Nat} {g cap k : Nat} {p : List (Nat × Nat)} (h : FW w wr n st (.slice (some ⟨g, 0, none⟩) k cap) p) : w.heap.size + 1 ≤ g ∧ g < wr.heap.size := h.own.lt g rfl
theorem FW.edge {w wr : World} {n : Nat} {st : Nat → Nat} {g cap v e : Nat} {p : List (Nat × Nat)} (h : FW w wr n st (.slice (some ⟨g, 0, none⟩) (p.length + 1) cap) (p ++ [(v, e)])) (x : Int) (e' : Nat) (hx : x = (e' : Int)) : FW w (wr.setCell ⟨g, p.length * 2 + 1, none⟩ (.int .i64 x)) n st (.slice (some ⟨g, 0, none⟩) (p.length + 1) cap) (p ++ [(v, e')]) := by
  subst hx
  have hge := h.ge
  have ho := h.own
  simp only [List.length_append, List.length_cons, List.length_nil] at ho
  obtain ⟨h1, _⟩ := World.ownsRow.stored ho (p.length * 2 + 1) (.int .i64 (e' : Int))
  rw [flat_set] at h1
  refine ⟨h.below.setCell (by show w.heap.size ≤ g; omega) _, by simpa [World.setCell] using h.size, h.row.setOther (by show w.heap.size ≠ g; omega) _, by simpa using h1⟩
theorem FW.top {w wr : World} {n : Nat} {st : Nat → Nat} {g cap v e : Nat} {p : List (Nat × Nat)} (h : FW w wr n st (.slice (some ⟨g, 0, none⟩) (p.length + 1) cap) (p ++ [(v, e)])) :
    wr.cell? ⟨g, p.length * 2, none⟩ = some (.int .i64 (v : Int)) ∧ wr.cell? ⟨g, p.length * 2 + 1, none⟩ = some (.int .i64 (e : Int)) ∧ ∀ j, wr.frozen? ⟨g, j, none⟩ = false := by
  have ho := h.own
  simp only [List.length_append, List.length_cons, List.length_nil] at ho
  have hg := flat_get (p := p ++ [(v, e)]) (i := p.length) (x := (v, e)) (by rw [getElem?_snoc, if_pos rfl])
  exact ⟨by rw [ho.cellAt _ (by omega)]; exact hg.1, by rw [ho.cellAt _ (by omega)]; exact hg.2, fun j => ho.frozenAt j⟩
theorem FW.pathAt {w wr : World} {n : Nat} {st : Nat → Nat} {g cap k : Nat} {p : List (Nat × Nat)} (h : FW w wr n st (.slice (some ⟨g, 0, none⟩) k cap) p) (hk : p.length = k) : PathAt wr g p := by
  intro i x hx
  have hl := (List.getElem?_eq_some_iff.1 hx).1
  have ho := h.own
  rw [hk] at ho
  have hg := flat_get hx
  exact ⟨by rw [ho.cellAt _ (by omega)]; exact hg.1, by rw [ho.cellAt _ (by omega)]; exact hg.2⟩
/-- Behind an append. -/
theorem FW.grown {w wr w1 : World} {n : Nat} {st : Nat → Nat} {v v' : Value} {p : List (Nat × Nat)} {x : Nat × Nat} (h : FW w wr n st v p)
    (hown : w1.ownsRow (w.heap.size + 1) 101 2 v' (p.length + 1) (flat p ++ [.int .i64 (x.1 : Int), .int .i64 (x.2 : Int)])) (hg : wr.grownBy w1 v.ownBlock) : FW w w1 n st v' (p ++ [x]) := by
  have hs := h.size
  have hs1 := hg.size
  have hlt := fun k hk => (h.own.lt k hk).1
  refine ⟨h.below.grown hg (by omega) (fun k hk => by have := hlt k hk; omega), by omega, h.row.of_block (hg.block _ (by omega) (fun e => by have := hlt _ e.symm; omega)), ?_⟩
  rw [flat_append]
  simpa [flat] using hown
theorem owns_form {wr : World} {base : Nat} {e : TypeId} {size : Nat} {v : Value} {k : Nat} {xs : List Value} (h : wr.ownsRow base e size v (k + 1) xs) : ∃ g cap, v = .slice (some ⟨g, 0, none⟩) (k + 1) cap := by
  rcases h.2 with ⟨_, h0⟩ | ⟨g, cap, _, hv, _⟩
  · omega
  · exact ⟨g, cap, hv⟩

theorem slice_zero {wr : World} {base k : Nat} {ao : Option Addr} {cp : Nat} {xs : List Value} (h : wr.ownsRow base 101 2 (.slice ao k cp) k xs) (W : World) : (Instr.slice 99 (.slice ao k cp) none (some (.int .i64 0)) none).run Try.prog W = .ok (.slice ao 0 cp) W := by
  have ht : Try.prog.underlying 99 = some (.slice (Try.prog.elem 99)) := by kernel_rfl
  have hz : ∀ W : World, (sizeOf (Try.prog.elem 99)).run Try.prog W = .ok 2 W := fun W => by kernel_rfl
  rw [run_slice_h W 99 ao k cp ht .i64 0 (by omega) (by omega), hz W]
  simp only [Result.andThen, sliced]
  rcases h.2 with ⟨hv, _⟩ | ⟨g, cap, _, hv, _⟩
  · cases hv; rfl
  · cases hv; simp [Addr.add]

theorem slice_upto (g m cp k : Nat) (hk : k ≤ cp) (hc : 0 < cp) (W : World) : (Instr.slice 99 (.slice (some ⟨g, 0, none⟩) m cp) none (some (.int .i64 (k : Int))) none).run Try.prog W = .ok (.slice (some ⟨g, 0, none⟩) k cp) W := by
  have ht : Try.prog.underlying 99 = some (.slice (Try.prog.elem 99)) := by kernel_rfl
  have hz : ∀ W : World, (sizeOf (Try.prog.elem 99)).run Try.prog W = .ok 2 W := fun W => by kernel_rfl
  rw [run_slice_h W 99 _ m cp ht .i64 k (by omega) (by omega), hz W]
  simp only [Result.andThen, sliced]
  rw [if_neg (by omega)]
  simp [Addr.add]
theorem slice_from (g m cp s : Nat) (hs : s < m) (hm : m ≤ cp) (W : World) : (Instr.slice 99 (.slice (some ⟨g, 0, none⟩) m cp) (some (.int .i64 (s : Int))) none none).run Try.prog W = .ok (.slice (some ⟨g, s * 2, none⟩) (m - s) (cp - s)) W := by
  have ht : Try.prog.underlying 99 = some (.slice (Try.prog.elem 99)) := by kernel_rfl
  have hz : ∀ W : World, (sizeOf (Try.prog.elem 99)).run Try.prog W = .ok 2 W := fun W => by kernel_rfl
  rw [run_slice_l W 99 _ m cp ht .i64 s (by omega) (by omega), hz W]
  simp only [Result.andThen, sliced, Int.toNat_natCast]
  rw [if_neg (by omega)]
  simp only [Option.map_some, Addr.add_lit, Nat.zero_add]
theorem FW.cap {w wr : World} {n : Nat} {st : Nat → Nat} {g cap k : Nat} {p : List (Nat × Nat)} (h : FW w wr n st (.slice (some ⟨g, 0, none⟩) k cap) p) : k ≤ cap := by
  rcases h.own.2 with ⟨h0, _⟩ | ⟨g', cap', cur, hv, _, _, hn, _⟩
  · cases h0
  · cases hv; exact hn
theorem cell_far (w : World) (p a : Addr) (v : Value) (h : p.block ≠ a.block) : (w.setCell p v).cell? a = w.cell? a := World.cell?_of_block (Below.heap_setCell _ _ _ _ (fun e => h e.symm))
theorem idx_lt {p : List (Nat × Nat)} {k s x : Nat} (h : p.length = k) (hs : (p.map Prod.fst)[s]? = some x) : s < k := by
  have := (List.getElem?_eq_some_iff.1 hs).1
  rw [List.length_map, h] at this
  exact this
/-- The world while the cycle is gathered. -/
structure CW (w2 wr : World) (gc m j : Nat) (nodes : List Nat) : Prop where
  below : Below gc w2 wr
  size : gc < wr.heap.size
  own : wr.ownsRow gc 3 1 (.slice (some ⟨gc, 0, none⟩) j m) j ((nodes.take j).map fun v : Nat => .int .i64 (v : Int))
theorem CW.push {w2 wr w3 : World} {gc m j y : Nat} {nodes : List Nat} {o o' : Obj} (h : CW w2 wr gc m j nodes) (hy : nodes[j]? = some y)
    (hown : w3.ownsRow gc 3 1 (.slice (some ⟨gc, 0, none⟩) (j + 1) m) (j + 1) (((nodes.take j).map fun v : Nat => .int .i64 (v : Int)) ++ [.int .i64 (y : Int)]))
    (hg : ((wr.alloc o).alloc o').grownBy w3 (some gc)) : CW w2 w3 gc m (j + 1) nodes := by
  have hs := h.size
  have hs1 := hg.size
  simp at hs1
  refine ⟨((h.below.alloc (by omega) o).alloc (by simp; omega) o').grown hg (by simp; omega) (fun k hk => by cases hk; omega), by omega, ?_⟩
  rw [List.take_add_one, hy]
  simpa using hown
theorem hide {p : Prop} (h : p) : Hid p := h

/-- WHAT findCycle LEAVES. -/
def FindPost (w : World) (n : Nat) (L : Nat → Nat) (E : Nat → Nat → Nat) (e : Ending) (w' : World) : Prop :=
  Below w.heap.size w w' ∧ ((e = .returned (.slice none 0 0) ∧ Ranked n L E) ∨
    ∃ (g cap : Nat) (cyc : List Nat), e = .returned (.slice (some ⟨g, 0, none⟩) cyc.length cap) ∧ IsCyc n L E cyc ∧ ∀ (i u : Nat), cyc[i]? = some u → w'.cell? ⟨g, i, none⟩ = some (.int .i64 (u : Int)))

set_option maxRecDepth 100000 in
set_option maxHeartbeats 1000000 in
theorem findCycle_any (w : World) (a : Option Addr) (b off n cap : Nat) (A : Nat → Option Addr) (L C GB GO : Nat → Nat) (E : Nat → Nat → Nat) (hn : n ≤ 65536) (hL : ∀ r, r < n → L r ≤ 1048576) (hE : ∀ u, u < n → ∀ c, c < L u → E u c < n)
    (h : GraphAt w a b off n A L C GB GO (fun r c => (E r c : Int))) :
    Calls Try.prog 37 #[.slice a n cap] w fun e w' => FindPost w n L E e w' := by
  obtain ⟨i0, hi, hz0, hz1, hz2⟩ := info_parts info101
  have hmk := run_make_row' (P := Try.prog) 98 5 (.int .u8 0) 1 Try.underlying98 info5 rfl .i64 .i64 n (by omega) (by omega)
  go_enter Try.func37, Try.ntmps37
  go_wp2
  have H0 := FW.start w n
  clear hmk
  go_loopw [4, 17] (fun t i wr => ∃ (k : Nat) (st : Nat → Nat) (ao : Option Addr) (cp : Nat), k ≤ n ∧ i = .int .i64 k ∧ t = .slice ao 0 cp ∧ Outer n L E k st ∧ FW w wr n st (.slice ao 0 cp) []) (fun _ i _ => n - (intOf i).toNat)
  case atStart => exact ⟨0, _, none, 0, Nat.zero_le _, rfl, rfl, outer_start n L E, H0⟩
  case round =>
    obtain ⟨k, st, ao, cp, hk, rfl, rfl, hO, hF⟩ := hrel
    clear H0
    by_cases hlt : k < n
    · have hw1 := hF.row.cell hlt
      have hw2 := hF.row.frozen k
      by_cases hs : st k = 0
      · have hs0 : ∀ W : World, (Instr.slice 99 (.slice ao 0 cp) none (some (.int .i64 0)) none).run Try.prog W = .ok (.slice ao 0 cp) W := by
          exact slice_zero hF.own
        rw [hs] at hw1
        have HF := hF.mark k 1
        have HD := dfs_start hO hlt hs
        have hown := HF.own
        go_wp2_with (at_builtin; (refine wpList_append_own _ rfl (.tmp 29) (.tmp 32) 99 rfl (w.heap.size + 1) 101 i0 _ 2 16 Try.underlying99 hi hz0 hz1 hz2 rfl (by decide) _ 0 [] rfl (hown.alloc _) ⟨wr.heap.size, 0, none⟩ 1 1 [.int .i64 (k : Int), .int .i64 0] rfl rfl ?c1 ?c2 ?c3 ?c4 ?c5 ?_))
        case c1 => rw [show wr.heap.size = (wr.setCell ⟨w.heap.size, k, none⟩ (.int .u8 1)).heap.size by simp]; exact cell_two_new _ _ _ _
        case c2 => intro u hu; simp at hu; rcases hu with rfl | rfl <;> rfl
        case c3 => unfold maxLen; omega
        case c4 => omega
        case c5 => have := hF.size; simp; omega
        intro v' w1 hown1 hgrow1 _
        have HG := FW.grown (x := (k, 0)) (HF.alloc _) hown1 hgrow1
        obtain ⟨g, cp1, hv⟩ := owns_form hown1
        rw [hv] at HG
        rw [hv]
        clear hown1 hgrow1 hown HF hF hw1 hw2 hs0 hO hv
        obtain ⟨wo, rfl⟩ : ∃ wo : World, wo = wr := ⟨_, rfl⟩
        go_wp2
        go_loopg [4] (left n L (upd st k 1) [(k, 0)]) (fun gk t wr => ∃ (p : List (Nat × Nat)) (K : Nat) (st : Nat → Nat) (g cp : Nat), Hid (gk = left n L st p) ∧ Hid (p.length = K) ∧ t = .slice (some ⟨g, 0, none⟩) K cp ∧ Dfs n L E k st p ∧ FW w wr n st (.slice (some ⟨g, 0, none⟩) K cp) p)
        case atStart => exact ⟨_, 1, _, g, cp1, rfl, rfl, rfl, HD, HG⟩
        case round =>
          clear HG HD
          obtain ⟨p0, K, st, g, cp, hgk, HK, rfl, hD, hF⟩ := hrel
          match K, hF, HK with
          | 0, hF, HK =>
            obtain rfl : p0 = [] := List.eq_nil_of_length_eq_zero HK.out
            have HO := dfs_end hD
            clear hD
            go_wp2
            go_roundw
            case rel => exact ⟨k + 1, st, some ⟨g, 0, none⟩, cp, by omega, by go_num, rfl, HO, hF⟩
            case measure => simp [intOf]; omega
          | K + 1, hF, HK =>
            obtain ⟨p, v, e, HP⟩ : ∃ (p : List (Nat × Nat)) (v e : Nat), Hid (p0 = p ++ [(v, e)]) := by
              rcases List.eq_nil_or_concat p0 with rfl | ⟨p, ⟨v, e⟩, rfl⟩
              · have := HK.out; simp at this
              · exact ⟨p, v, e, List.concat_eq_append⟩
            obtain rfl : K = p.length := by have := HK.out; rw [HP.out] at this; simp at this; omega
            rw [HP.out] at hD hF
            have hvn := (hD.lt (v, e) (by simp)).1
            have hel := (hD.lt (v, e) (by simp)).2
            simp only at hvn hel
            have hlen := dfs_len hD
            simp only [List.length_append, List.length_cons, List.length_nil] at hlen
            obtain ⟨t0, t1, tf⟩ := hF.top
            have hc : wr.cell? ⟨b, off + v, none⟩ = some (.slice (A v) (L v) (C v)) := (hF.below.cell (p := ⟨b, off + v, none⟩) (World.block_lt_of_cell? _ _ (h.row v hvn))).trans (h.row v hvn)
            obtain rfl := h.at' (by omega)
            have hl := hL v hvn
            generalize hkp : p.length = K at *
            have HKP := hide hkp
            clear hkp
            by_cases hev : e = L v
            · have hb : ((e : Int) == (L v : Int)) = true := by simp [hev]
              have hcp := hF.cap
              have hsl := slice_upto g (K + 1) cp K (by omega) (by omega)
              have HN := dfs_pop hD hev
              have HL := left_pop hD
              have hw1 := hF.row.cell hvn
              have hw2 := hF.row.frozen v
              have HF : ∀ m, FW w (((wr.drewN m).setCell ⟨w.heap.size, v, none⟩ (.int .u8 2))) n (upd st v 2) (.slice (some ⟨g, 0, none⟩) K cp) p := fun m => by
                have h1 := FW.pop (p := p) (by rw [HKP.out]; exact (hF.drewN m).mark v 2)
                rw [HKP.out] at h1
                exact h1
              clear hD hev hL hE h
              go_wp2
              go_quiet (fail)
              go_wp2
              go_roundg (left n L (upd st v 2) p)
              case measure => rw [hgk.out, HP.out]; exact HL
              case rel => exact ⟨p, K, upd st v 2, g, cp, rfl, HKP, rfl, HN, HF _⟩
            · have hb : ((e : Int) == (L v : Int)) = false := beq_eq_false_iff_ne.2 (by omega)
              go_wp2
              go_quiet (fail)
              have hx := hE v hvn e (by omega)
              obtain ⟨hA', hcell0⟩ := h.cell v hvn e (by omega)
              rw [hA'] at hc
              have hcell : wr.cell? ⟨GB v, GO v + e, none⟩ = some (.int .i64 (E v e)) := (hF.below.cell (p := ⟨GB v, GO v + e, none⟩) (World.block_lt_of_cell? _ _ hcell0)).trans hcell0
              have hel' : e < L v := by omega
              have hFq := hF.drewN nq
              replace hc : (wr.drewN nq).cell? _ = _ := hc
              replace hcell : (wr.drewN nq).cell? _ = _ := hcell
              replace t0 : (wr.drewN nq).cell? _ = _ := t0
              replace t1 : (wr.drewN nq).cell? _ = _ := t1
              replace tf : ∀ j, (wr.drewN nq).frozen? ⟨g, j, none⟩ = false := tf
              clear hcell0 hA' hF hev
              generalize wr.drewN nq = wq at *
              have q0 : ∀ o, (wq.alloc o).cell? ⟨g, K * 2, none⟩ = some (.int .i64 (v : Int)) := fun o => (World.cell?_alloc_lt _ _ _ (World.block_lt_of_cell? _ _ t0)).trans t0
              have q1 : ∀ o, (wq.alloc o).cell? ⟨g, K * 2 + 1, none⟩ = some (.int .i64 (e : Int)) := fun o => (World.cell?_alloc_lt _ _ _ (World.block_lt_of_cell? _ _ t1)).trans t1
              have q2 : ∀ o, (wq.alloc o).cell? ⟨b, off + v, none⟩ = some (.slice (some ⟨GB v, GO v, none⟩) (L v) (C v)) := fun o => (World.cell?_alloc_lt _ _ _ (World.block_lt_of_cell? _ _ hc)).trans hc
              have q3 : ∀ o, (wq.alloc o).cell? ⟨GB v, GO v + e, none⟩ = some (.int .i64 (E v e)) := fun o => (World.cell?_alloc_lt _ _ _ (World.block_lt_of_cell? _ _ hcell)).trans hcell
              go_wp2
              go_region
              clear q0 q1 q2 q3 t0 t1 tf hc hcell
              have hF2 := (hFq.alloc (.cells #[.int .i64 (E v e : Int)] 3)).drew
              have hbx : (wq.alloc (.cells #[.int .i64 (E v e : Int)] 3)).drew.cell? ⟨wq.heap.size, 0, none⟩ = some (.int .i64 (E v e : Int)) := World.cell?_alloc_at _ _ _ _ rfl
              have hgb : g < wq.heap.size := hFq.ge.2
              clear hFq
              generalize (wq.alloc (.cells #[.int .i64 (E v e : Int)] 3)).drew = W2 at *
              generalize wq.heap.size = bx at *
              obtain ⟨t0, t1, tf⟩ := (show FW w W2 n st (.slice (some ⟨g, 0, none⟩) (p.length + 1) cp) (p ++ [(v, e)]) by rw [HKP.out]; exact hF2).top
              rw [HKP.out] at t0 t1
              have hge := hF2.ge
              have HF3 : ∀ x : Int, x = ((e + 1 : Nat) : Int) → FW w (W2.setCell ⟨g, K * 2 + 1, none⟩ (.int .i64 x)) n st (.slice (some ⟨g, 0, none⟩) (K + 1) cp) (p ++ [(v, e + 1)]) := fun x hx => by
                have := FW.edge (p := p) (by rw [HKP.out]; exact hF2) x (e + 1) hx
                rw [HKP.out] at this
                exact this
              have hst : ∀ u, (W2.setCell ⟨g, K * 2 + 1, none⟩ u).cell? ⟨w.heap.size, E v e, none⟩ = some (.int .u8 (st (E v e) : Int)) := fun u => by
                rw [cell_far _ _ _ _ (by show g ≠ w.heap.size; omega)]; exact hF2.row.cell hx
              have hst2 : ∀ u, (W2.setCell ⟨g, K * 2 + 1, none⟩ u).frozen? ⟨w.heap.size, E v e, none⟩ = false := fun u => (hF2.row.setOther (by show w.heap.size ≠ g; omega) u).frozen _
              have hbx2 : ∀ u, (W2.setCell ⟨g, K * 2 + 1, none⟩ u).cell? ⟨bx, 0, none⟩ = some (.int .i64 (E v e : Int)) := fun u => by
                rw [cell_far _ _ _ _ (by show g ≠ bx; omega)]; exact hbx
              have hs2 := hD.st2 _ hx
              by_cases hst0 : st (E v e) = 0
              · rw [hst0] at hst
                have HN := dfs_push hE hD hel' hst0
                have HL := left_push (n := n) (p := p) hel' hx hst0
                have HF4 : ∀ x : Int, x = ((e + 1 : Nat) : Int) → FW w ((W2.setCell ⟨g, K * 2 + 1, none⟩ (.int .i64 x)).setCell ⟨w.heap.size, E v e, none⟩ (.int .u8 1)) n (upd st (E v e) 1) (.slice (some ⟨g, 0, none⟩) (K + 1) cp) (p ++ [(v, e + 1)]) := fun x hx => (HF3 x hx).mark (E v e) 1
                have hbx3 : ∀ u u', ((W2.setCell ⟨g, K * 2 + 1, none⟩ u).setCell ⟨w.heap.size, E v e, none⟩ u').cell? ⟨bx, 0, none⟩ = some (.int .i64 (E v e : Int)) := fun u u' => by
                  rw [cell_far _ _ _ _ (by show w.heap.size ≠ bx; omega)]; exact hbx2 u
                have hown : ∀ x : Int, x = ((e + 1 : Nat) : Int) → ((W2.setCell ⟨g, K * 2 + 1, none⟩ (.int .i64 x)).setCell ⟨w.heap.size, E v e, none⟩ (.int .u8 1)).ownsRow (w.heap.size + 1) 101 2 (.slice (some ⟨g, 0, none⟩) (K + 1) cp) (K + 1) (flat (p ++ [(v, e + 1)])) := fun x hx => by
                  have := (HF4 x hx).own
                  simp only [List.length_append, List.length_cons, List.length_nil] at this
                  rw [HKP.out] at this
                  exact this
                clear hD hst0 hs2 HF3
                go_wp2_with (at_builtin; (refine wpList_append_own _ rfl (.tmp 120) (.tmp 123) 99 rfl (w.heap.size + 1) 101 i0 _ 2 16 Try.underlying99 hi hz0 hz1 hz2 rfl (by decide) _ (K + 1) _ rfl ((hown _ (by omega)).alloc _) ⟨W2.heap.size, 0, none⟩ 1 1 [.int .i64 (E v e : Int), .int .i64 0] rfl rfl ?c1 ?c2 ?c3 ?c4 ?c5 ?_))
                case c1 => rw [show W2.heap.size = ((W2.setCell ⟨g, K * 2 + 1, none⟩ (.int .i64 ((e : Int) + 1))).setCell ⟨w.heap.size, E v e, none⟩ (.int .u8 1)).heap.size by simp]; exact cell_two_new _ _ _ _
                case c2 => intro u hu; simp at hu; rcases hu with rfl | rfl <;> rfl
                case c3 => unfold maxLen; omega
                case c4 => omega
                case c5 => simp; omega
                intro v' w1 hown1 hgrow1 _
                have HG := FW.grown (x := (E v e, 0)) ((HF4 _ (by omega)).alloc _) (by simpa [HKP.out] using hown1) hgrow1
                obtain ⟨g1, cp1, hv⟩ := owns_form hown1
                rw [hv] at HG
                rw [hv]
                clear hown1 hgrow1 hown HF4
                go_wp2
                go_roundg (left n L (upd st (E v e) 1) ((p ++ [(v, e + 1)]) ++ [(E v e, 0)]))
                case measure => rw [hgk.out, HP.out]; exact HL
                case rel => exact ⟨_, K + 1 + 1, upd st (E v e) 1, g1, cp1, rfl, by show _ = _; simp [HKP.out], rfl, HN, HG⟩
              · by_cases hst1 : st (E v e) = 1
                · rw [hst1] at hst
                  have hin := dfs_place hD hx hst1
                  have hcyc : ∀ s : Nat, ((p ++ [(v, e + 1)]).map Prod.fst)[s]? = some (E v e) → IsCyc n L E (((p ++ [(v, e + 1)]).map Prod.fst).drop s) := fun s hs => dfs_cycle hD hel' hs
                  have hpa : ∀ x : Int, x = ((e + 1 : Nat) : Int) → PathAt (W2.setCell ⟨g, K * 2 + 1, none⟩ (.int .i64 x)) g (p ++ [(v, e + 1)]) := fun x hx => (HF3 x hx).pathAt (by simp [HKP.out])
                  have hcp := hF2.cap
                  have HK1 : Hid ((p ++ [(v, e + 1)]).length = K + 1) := by show _ = _; simp [HKP.out]
                  obtain ⟨i3, hi3, hy0, hy1, hy2⟩ := info_parts info3
                  clear hD hst0 hst1 hs2
                  go_wp2_with (first
                    | (go_at_call 52; refine (indexFunc_any _ g cp (E v e) bx (K + 1) (p ++ [(v, e + 1)]) HK1 (by omega) (hpa _ (by omega)) (hbx2 _) hin).mono ?_; rintro e' w1 ⟨⟨s, rfl, hs⟩, hb1⟩; have hsK := idx_lt HK1.out hs; have HS := hide hs; clear hs; have hsl := slice_from g (K + 1) cp s hsK hcp)
                    | (at_make; (refine wpList_make_own _ rfl _ _ 25 rfl w1.heap.size 3 i3 (.int .i64 0) 1 Try.underlying25 hi3 hy0 hy1 _ _ _ (K + 1 - s) rfl rfl (by omega) (by rw [hy2]; omega) (by unfold maxLen; omega) (Nat.le_refl _) ?_; intro w2 hown2 hgrow2)))
                  have hF3 := HF3 ((e : Int) + 1) (by omega)
                  have hpa3 := hpa ((e : Int) + 1) (by omega)
                  have hcy := hcyc s HS.out
                  have hg3 := hF3.ge
                  have hs1 := hb1.size
                  have hs2' := hgrow2.size
                  have hb2 : Below w1.heap.size w1 w2 := (Below.refl _ _).grown hgrow2 (Nat.le_refl _) (fun k hk => by cases hk)
                  have hbel2 : Below w.heap.size w w2 := (hF3.below.trans (hb1.mono (by have := hF3.below.size; omega))).trans (hb2.mono (by have := hF3.below.size; omega))
                  have hpa2 : PathAt w2 g (p ++ [(v, e + 1)]) := fun i x hix => by
                    obtain ⟨r0, r1⟩ := hpa3 i x hix
                    exact ⟨((hb2.cell (p := ⟨g, i * 2, none⟩) (by show g < _; omega)).trans (hb1.cell (p := ⟨g, i * 2, none⟩) (by show g < _; omega))).trans r0, ((hb2.cell (p := ⟨g, i * 2 + 1, none⟩) (by show g < _; omega)).trans (hb1.cell (p := ⟨g, i * 2 + 1, none⟩) (by show g < _; omega))).trans r1⟩
                  have hgw : g < w1.heap.size := by omega
                  have hww : w.heap.size ≤ w1.heap.size := by omega
                  have hC0 : CW w2 w2 w1.heap.size (K + 1 - s) 0 (((p ++ [(v, e + 1)]).map Prod.fst).drop s) := ⟨Below.refl _ _, by have := hown2.lt w1.heap.size rfl; omega, hown2⟩
                  have HM : Hid ((((p ++ [(v, e + 1)]).map Prod.fst).drop s).length = K + 1 - s) := by show _ = _; simp [HKP.out]
                  have hsm : s + (K + 1 - s) ≤ K + 1 := by omega
                  clear hb1 hgrow2 hown2 hF3 HF3 hpa hpa3 hcyc hst hst2 hbx hbx2 hsl hF2 t0 t1 tf hin hs1 hs2' hb2 hg3 hge hgb h hL hE hl HS
                  generalize K + 1 - s = m at *
                  generalize w1.heap.size = gc at *
                  go_loopw [9, 104] (fun t i wr => ∃ j : Nat, j ≤ m ∧ i = .int .i64 j ∧ t = .slice (some ⟨gc, 0, none⟩) j m ∧ CW w2 wr gc m j (((p ++ [(v, e + 1)]).map Prod.fst).drop s)) (fun _ i _ => m - (intOf i).toNat)
                  case atStart => exact ⟨0, Nat.zero_le _, rfl, rfl, hC0⟩
                  case round =>
                    obtain ⟨j, hj, rfl, rfl, hC⟩ := hrel
                    clear hC0
                    by_cases hjm : j < m
                    · obtain ⟨y1, y2, hy⟩ : ∃ y1 y2 : Nat, (p ++ [(v, e + 1)])[s + j]? = some (y1, y2) := by
                        have hlt2 : s + j < (p ++ [(v, e + 1)]).length := by have := HK1.out; omega
                        exact ⟨(p ++ [(v, e + 1)])[s + j].1, (p ++ [(v, e + 1)])[s + j].2, List.getElem?_eq_getElem hlt2⟩
                      obtain ⟨r0, r1⟩ := hpa2 (s + j) (y1, y2) hy
                      simp only at r0 r1
                      have c0 : wr.cell? ⟨g, s * 2 + j * 2, none⟩ = some (.int .i64 (y1 : Int)) := (hC.below.cell (p := ⟨g, s * 2 + j * 2, none⟩) hgw).trans (by rw [← Nat.add_mul]; exact r0)
                      have c1 : wr.cell? ⟨g, s * 2 + j * 2 + 1, none⟩ = some (.int .i64 (y2 : Int)) := (hC.below.cell (p := ⟨g, s * 2 + j * 2 + 1, none⟩) hgw).trans (by rw [← Nat.add_mul]; exact r1)
                      have HY : Hid ((((p ++ [(v, e + 1)]).map Prod.fst).drop s)[j]? = some y1) := by
                        show _ = _
                        rw [List.getElem?_drop, List.getElem?_map, hy]; rfl
                      have hown := hC.own
                      clear hy r0 r1 hpa2
                      go_wp2_with (at_builtin; (refine wpList_append_fits _ rfl (.tmp 108) (.tmp 111) 25 rfl gc 3 i3 1 Try.underlying25 hi3 hy1 gc j m _ rfl ((hown.alloc _).alloc _) ⟨wr.heap.size + 1, 0, none⟩ 1 1 [.int .i64 (y1 : Int)] rfl rfl (one_new (by simp) _ _) (by intro u hu; simp at hu; subst hu; rfl) (by omega) ?_; intro w3 hown3 hgrow3))
                      have HC := hC.push HY.out hown3 hgrow3
                      go_roundw
                      case rel => exact ⟨j + 1, by omega, by go_num, rfl, HC⟩
                      case measure => simp [intOf]; omega
                    · obtain rfl : j = m := by omega
                      have hbel3 := hbel2.trans (hC.below.mono hww)
                      have hown := hC.own
                      have HCL : ∀ (i u : Nat), (((p ++ [(v, e + 1)]).map Prod.fst).drop s)[i]? = some u → wr.cell? ⟨gc, i, none⟩ = some (.int .i64 (u : Int)) := fun i u hu => by
                        have hil := (List.getElem?_eq_some_iff.1 hu).1
                        rw [HM.out] at hil
                        rw [hown.cellAt i (by omega), List.getElem?_map, List.getElem?_take, if_pos hil, hu]
                        rfl
                      clear hown hC hpa2
                      go_wp2
                      go_ret
                      exact ⟨hbel3, .inr ⟨gc, j, _, by rw [HM.out]; rfl, hcy, HCL⟩⟩
                · have hst2' : st (E v e) = 2 := by omega
                  rw [hst2'] at hst
                  have HN := dfs_skip hD hel' hst2'
                  have HL := left_skip (n := n) (st := st) (p := p) hel'
                  clear hD hst0 hst1 hst2' hs2
                  go_wp2
                  go_roundg (left n L st (p ++ [(v, e + 1)]))
                  case measure => rw [hgk.out, HP.out]; exact HL
                  case rel => exact ⟨_, K + 1, st, g, cp, rfl, by show _ = _; simp [HKP.out], rfl, HN, HF3 _ (by omega)⟩
      · have HO := outer_skip hO hs
        have hsb : ((st k : Int) != 0) = true := by simp; omega
        have hs2 : st k ≤ 2 := by rcases hO.off k hlt with h0 | h0 <;> omega
        go_wp2
        go_roundw
        case rel => exact ⟨k + 1, st, ao, cp, by omega, by go_num, rfl, HO, hF⟩
        case measure => simp [intOf]; omega
    · obtain rfl : k = n := by omega
      have HR := outer_done hO
      have hbel := hF.below
      clear hO hF
      go_wp2
      go_ret
      exact ⟨hbel, .inl ⟨rfl, HR⟩⟩

end Go.Proofs.Qxb6601949a.Fc
