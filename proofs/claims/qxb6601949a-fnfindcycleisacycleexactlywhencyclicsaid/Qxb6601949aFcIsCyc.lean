/- THE WALK of isCycle, at a true cycle. -/
import Derived.Test.Qxb6601949aFcKahn
namespace Go.Proofs.Qxb6601949a.Fc
open Go.RowKit

theorem info4 : (Try.prog.info? 4).map (fun i => (i.zero, i.size, i.bytes)) = some (some (.bool false), 1, 1) := by kernel_rfl

structure SeenW (w wr : World) (n : Nat) (S : Nat → Bool) : Prop where
  below : Below w.heap.size w wr
  row : wr.rowIs w.heap.size 4 n (fun v => .bool (S v))
theorem SeenW.store {w wr : World} {n : Nat} {S T : Nat → Bool} (h : SeenW w wr n S) (v : Nat) (hv : T v = true) (hT : ∀ u, u ≠ v → T u = S u) : SeenW w (wr.setCell ⟨w.heap.size, v, none⟩ (.bool true)) n T := by
  refine ⟨h.below.setCell (Nat.le_refl _) _, (h.row.set v _).congr (fun u hu => ?_)⟩
  by_cases e : u = v
  · subst e; rw [if_pos rfl, hv]
  · rw [if_neg e, hT u e]

set_option maxHeartbeats 1000000 in
theorem isCycle_any (w : World) (a : Option Addr) (b off n cap : Nat) (A : Nat → Option Addr) (L C GB GO : Nat → Nat) (E : Nat → Nat → Nat) (g capc : Nat) (cyc : List Nat) (K : Nat) (HK : Hid (cyc.length = K)) (hn : n ≤ 65536) (hL : ∀ r, r < n → L r ≤ 1048576)
    (h : GraphAt w a b off n A L C GB GO (fun r c => (E r c : Int))) (hcyc : IsCyc n L E cyc) (hcell : ∀ (i u : Nat), cyc[i]? = some u → w.cell? ⟨g, i, none⟩ = some (.int .i64 (u : Int))) :
    Calls Try.prog 13 #[.slice a n cap, .slice (some ⟨g, 0, none⟩) K capc] w fun e w' => e = .returned (.bool true) ∧ Below w.heap.size w w' := by
  have hmk := run_make_row' (P := Try.prog) 47 4 (.bool false) 1 Try.underlying47 info4 rfl .i64 .i64 n (by omega) (by omega)
  have hk0 : 0 < K := by have := hcyc.ne; rw [HK.out] at this; exact this
  have hkn : K ≤ n := by have := hcyc.le; rw [HK.out] at this; exact this
  have hgl : ∀ i, i < K → ∃ u : Nat, cyc[i]? = some u ∧ u < n ∧ w.cell? ⟨g, i, none⟩ = some (.int .i64 (u : Int)) ∧ g < w.heap.size := fun i hi => by
    have h1 : cyc[i]? = some (cyc[i]'(by rw [HK.out]; exact hi)) := List.getElem?_eq_getElem (by rw [HK.out]; exact hi)
    exact ⟨_, h1, hcyc.lt _ (List.getElem_mem _), hcell i _ h1, World.block_lt_of_cell? _ _ (hcell i _ h1)⟩
  have hb0 : ((K : Int) == 0) = false := beq_eq_false_iff_ne.2 (by omega)
  have hnk : decide (n < K) = false := decide_eq_false (by omega)
  go_enter Try.func13, Try.ntmps13
  go_wp2
  have H0 : SeenW w (w.alloc (.cells (madeCells #[.bool false] n) 4)) n (fun v => decide (v ∈ cyc.take 0)) := ⟨(Below.refl _ _).alloc (Nat.le_refl _) _, (World.rowIs_made w _ n 4).congr (fun v _ => by simp)⟩
  clear hmk
  go_loopw [7] (fun i wr => ∃ k : Nat, k ≤ K ∧ i = .int .i64 k ∧ SeenW w wr n (fun v => decide (v ∈ cyc.take k))) (fun i _ => K - (intOf i).toNat)
  case atStart => exact ⟨0, Nat.zero_le _, rfl, H0⟩
  case round =>
    obtain ⟨k, hk, rfl, hW⟩ := hrel
    clear H0
    by_cases hlt : k < K
    · obtain ⟨u, hu, hun, huc, hgb⟩ := hgl k hlt
      have hc : wr.cell? ⟨g, k, none⟩ = some (.int .i64 (u : Int)) := (hW.below.cell (p := ⟨g, k, none⟩) hgb).trans huc
      have hnot : u ∉ cyc.take k := fun hm => by
        obtain ⟨i, hi, he⟩ := List.mem_iff_getElem.1 hm
        have hik : i < k := by simp at hi; omega
        have h2 : cyc[i]? = some u := by
          rw [List.getElem?_eq_getElem (by rw [HK.out]; omega)]
          rw [List.getElem_take] at he
          rw [he]
        have := place_inj hcyc.nodup h2 hu
        omega
      have hw1 : wr.cell? ⟨w.heap.size, u, none⟩ = some (.bool false) := by
        have := hW.row.cell hun
        simpa [hnot] using this
      have hw2 := hW.row.frozen u
      have H1 := hW.store (T := fun v => decide (v ∈ cyc.take (k + 1))) u (by
          have e1 : cyc.take (k + 1) = cyc.take k ++ [u] := by rw [List.take_add_one, hu]; rfl
          rw [e1]; simp) (fun v hv => by
          have e1 : cyc.take (k + 1) = cyc.take k ++ [u] := by rw [List.take_add_one, hu]; rfl
          rw [e1]; simp [hv])
      clear h hL hcell hgl hW hu huc hnot hcyc
      go_wp2
      go_roundw
      case rel => exact ⟨k + 1, by omega, by go_num, H1⟩
      case measure => simp [intOf]; omega
    · have hbel := hW.below
      clear hW
      go_wp2
      obtain ⟨wo, rfl⟩ : ∃ wo : World, wo = wr := ⟨_, rfl⟩
      go_loopw [9] (fun i wr => wr = wo ∧ ∃ k : Nat, k ≤ K ∧ i = .int .i64 k) (fun i _ => K - (intOf i).toNat)
      case atStart => exact ⟨rfl, 0, Nat.zero_le _, rfl⟩
      case round =>
        obtain ⟨rfl, k2, hk2, rfl⟩ := hrel
        have hG := h.of_below hbel
        by_cases hlt2 : k2 < K
        · obtain ⟨u, hu, hun, huc, hgb⟩ := hgl k2 hlt2
          obtain ⟨u0, hu0, hun0, huc0, _⟩ := hgl 0 (by omega)
          have hc : wr.cell? ⟨g, k2, none⟩ = some (.int .i64 (u : Int)) := (hbel.cell (p := ⟨g, k2, none⟩) hgb).trans huc
          have hc0 : wr.cell? ⟨g, 0, none⟩ = some (.int .i64 (u0 : Int)) := (hbel.cell (p := ⟨g, 0, none⟩) hgb).trans huc0
          by_cases hlt3 : k2 + 1 < K
          · obtain ⟨u1, hu1, hun1, huc1, _⟩ := hgl (k2 + 1) hlt3
            have hc1 : wr.cell? ⟨g, k2 + 1, none⟩ = some (.int .i64 (u1 : Int)) := (hbel.cell (p := ⟨g, k2 + 1, none⟩) hgb).trans huc1
            have hedge := hcyc.step k2 u u1 hu hu1
            clear h hcell hgl hu huc hu0 huc0 hu1 huc1 hcyc
            go_wp2_with (go_at_call 38; refine (hasEdge_any _ a b off n cap A L C GB GO E u u1 hn hL hG hun hedge).mono ?_; rintro e w' ⟨rfl, rfl⟩)
            go_roundw
            case rel => exact ⟨trivial, k2 + 1, by omega, by go_num⟩
            case measure => simp [intOf]; omega
          · have hedge := hcyc.last u u0 (by rw [HK.out, show K - 1 = k2 by omega]; exact hu) hu0
            clear h hcell hgl hu huc hu0 huc0 hcyc
            go_wp2_with (go_at_call 38; refine (hasEdge_any _ a b off n cap A L C GB GO E u u0 hn hL hG hun hedge).mono ?_; rintro e w' ⟨rfl, rfl⟩)
            go_roundw
            case rel => exact ⟨trivial, k2 + 1, by omega, by go_num⟩
            case measure => simp [intOf]; omega
        · clear h hL hcell hgl hG
          go_wp2
          go_ret
          exact ⟨rfl, hbel⟩

end Go.Proofs.Qxb6601949a.Fc
