/- THE WALK of ZZNewRadix. -/
import Derived.Test.Qxb6601964aRad
namespace Go.Proofs.Qxb6601964a.Rad
open Go.RowKit

theorem below_setCells {B : Nat} {a : World} {b : Nat} (hb : B ≤ b) : ∀ (vs : List Value) (o : Nat) {w : World}, Below B a w → Below B a (w.setCells b o vs)
  | [], _, _, h => h
  | v :: r, o, w, h => below_setCells hb r (o + 1) (w := w.setCell ⟨b, o, none⟩ v) (h.setCell (by exact hb) v)

set_option maxRecDepth 10000 in
set_option maxHeartbeats 400000 in
theorem zzNewRadix_any (s : ByteArray) (w : World) (h2 : 2 ≤ s.size) (h62 : s.size ≤ 62) :
    Calls Try.prog 22 #[.string s] w fun e w' => e = .returned (.tuple #[.int .i64 (s.size : Int), .int .u8 (alOf s 0 : Int), .agg (arr (fromN (alOf s) s.size)).toArray, .agg (arr (toN (alOf s) s.size)).toArray]) ∧ Below w.heap.size w w' := by
  have hz := run_zero31
  go_enter Try.func22, Try.ntmps22
  go_wp2_with (go_at_call 26; refine (newRadix_any s _ h2 h62).mono ?_; rintro e w1 ⟨rfl, hR⟩)
  obtain ⟨c0, c1, r2, r3⟩ := hR.ranges
  have hbel := hR.below
  have q4 : w1.heap[w.heap.size]? = some (.cells zeros 31) := (hbel.block w.heap.size (by simp; omega)).trans (by rw [Below.heap_alloc _ _ _ (by simp)]; exact heap_alloc_new _ _)
  have q5 : w1.heap[w.heap.size + 1]? = some (.cells zeros 31) := (hbel.block (w.heap.size + 1) (by simp)).trans (by have := heap_alloc_new (w.alloc (.cells zeros 31)) (.cells zeros 31); simpa using this)
  have t4 : w1.there w.heap.size 0 256 := there_zeros q4
  have t5 : w1.there (w.heap.size + 1) 0 256 := there_zeros q5
  have hbelw : Below w.heap.size w w1 := (((Below.refl _ _).alloc (Nat.le_refl _) _).alloc (by simp) _).trans (hbel.mono (by simp; omega))
  have hN : ((w.alloc (.cells zeros 31)).alloc (.cells zeros 31)).heap.size = w.heap.size + 1 + 1 := by simp
  rw [hN] at c0 c1 r2 r3
  have hl1 := arr_length (fromN (alOf s) s.size)
  have hl2 := arr_length (toN (alOf s) s.size)
  have ho1 := arr_one (fromN (alOf s) s.size)
  have ho2 := arr_one (toN (alOf s) s.size)
  clear hR hbel q4 q5 hN hz
  generalize hA1 : arr (fromN (alOf s) s.size) = A1 at *
  generalize hA2 : arr (toN (alOf s) s.size) = A2 at *
  generalize hz0 : alOf s 0 = z at *
  have HA1 : Hid (arr (fromN (alOf s) s.size) = A1) := hA1
  have HA2 : Hid (arr (toN (alOf s) s.size) = A2) := hA2
  have HZ0 : Hid (alOf s 0 = z) := hz0
  clear hA1 hA2 hz0
  obtain ⟨sz, hsz⟩ : ∃ sz : Nat, sz = 256 := ⟨_, rfl⟩
  have hA : ∀ W : World, (isAgg 31).run Try.prog W = .ok true W := fun W => by kernel_rfl
  have hZ : ∀ W : World, (sizeOf 31).run Try.prog W = .ok sz W := fun W => by rw [hsz]; kernel_rfl
  have hsz0 : ¬ sz = 0 := by omega
  have hL1 : A1.length = sz := by omega
  have hL2 : A2.length = sz := by omega
  have hfar : ∀ (W : World) (b : Nat), b < w.heap.size + 1 + 1 → ∀ (vs : List Value) (j : Nat), (W.setCells b 0 vs).cell? ⟨w.heap.size + 1 + 1, j, none⟩ = W.cell? ⟨w.heap.size + 1 + 1, j, none⟩ := fun W b hb vs j => cell_setCells_far b 0 vs W _ (by show w.heap.size + 1 + 1 ≠ b; omega)
  have hc4 : ∀ (W : World) (vs : List Value) (j : Nat), (W.setCells w.heap.size 0 vs).cell? ⟨w.heap.size + 1 + 1, j, none⟩ = W.cell? ⟨w.heap.size + 1 + 1, j, none⟩ := fun W => hfar W _ (by omega)
  have hc5 : ∀ (W : World) (vs : List Value) (j : Nat), (W.setCells (w.heap.size + 1) 0 vs).cell? ⟨w.heap.size + 1 + 1, j, none⟩ = W.cell? ⟨w.heap.size + 1 + 1, j, none⟩ := fun W => hfar W _ (by omega)
  have ld1 : (loadCellsFrom ⟨w.heap.size + 1 + 1, 2, none⟩ 0 sz #[]).run Try.prog w1.drew = .ok A1.toArray w1.drew := by
    rw [← hL1]; exact run_loadCells_list _ _ _ (fun j v hj => by rw [Addr.add_mid]; exact r2 j v hj)
  have ld2 : (loadCellsFrom ⟨w.heap.size + 1 + 1, 258, none⟩ 0 sz #[]).run Try.prog w1.drew = .ok A2.toArray w1.drew := by
    rw [← hL2]; exact run_loadCells_list _ _ _ (fun j v hj => by rw [Addr.add_mid]; exact r3 j v hj)
  have ld1' : (loadCellsFrom ⟨w.heap.size + 1 + 1, 2, none⟩ 0 sz #[]).run Try.prog (w1.drew.setCells (w.heap.size + 1) 0 A2) = .ok A1.toArray (w1.drew.setCells (w.heap.size + 1) 0 A2) := by
    rw [← hL1]; exact run_loadCells_list _ _ _ (fun j v hj => by rw [Addr.add_mid, hc5]; exact r2 j v hj)
  have ld2' : (loadCellsFrom ⟨w.heap.size + 1 + 1, 258, none⟩ 0 sz #[]).run Try.prog (w1.drew.setCells w.heap.size 0 A1) = .ok A2.toArray (w1.drew.setCells w.heap.size 0 A1) := by
    rw [← hL2]; exact run_loadCells_list _ _ _ (fun j v hj => by rw [Addr.add_mid, hc4]; exact r3 j v hj)
  clear hfar
  have stGen : ∀ (W : World) (b : Nat) (A : List Value), W.there b 0 256 → A.length = 256 → (∀ v ∈ A, v.oneCell' = true) → (storeCells ⟨b, 0, none⟩ A 0).run Try.prog W = .ok () (W.setCells b 0 A) := fun W b A ht hl h1 => by
    have := run_storeCells_cells (P := Try.prog) b 0 A 0 W (fun j hj => (ht j (by omega)).1) (fun j hj => (ht j (by omega)).2) h1
    simpa using this
  have st4 := stGen w1.drew w.heap.size A1 t4 hl1 ho1
  have st5 := stGen w1.drew (w.heap.size + 1) A2 t5 hl2 ho2
  have st45 := stGen (w1.drew.setCells w.heap.size 0 A1) (w.heap.size + 1) A2 (World.there_setCells (w := w1.drew) t5 _ _ _) hl2 ho2
  have st54 := stGen (w1.drew.setCells (w.heap.size + 1) 0 A2) w.heap.size A1 (World.there_setCells (w := w1.drew) t4 _ _ _) hl1 ho1
  have ht4 : w1.drew.there w.heap.size 0 A1.length := by rw [hl1]; exact t4
  have ht5 : (w1.drew.setCells w.heap.size 0 A1).there (w.heap.size + 1) 0 A2.length := by rw [hl2]; exact World.there_setCells (w := w1.drew) t5 _ _ _
  clear stGen ho1 ho2 hsz hl1 hl2 r2 r3 t4 t5
  go_region
  go_wp2
  have fin : ∀ W : World, W.rangeAt w.heap.size 0 A1 → W.rangeAt (w.heap.size + 1) 0 A2 → (loadVar 31 ⟨w.heap.size, 0, none⟩).run Try.prog W = .ok (.agg A1.toArray) W ∧ (loadVar 31 ⟨w.heap.size + 1, 0, none⟩).run Try.prog W = .ok (.agg A2.toArray) W := fun W h1 h2 => by
    have e1 := run_loadCells_list (P := Try.prog) W ⟨w.heap.size, 0, none⟩ A1 (fun j v hj => by rw [Addr.add_mid]; exact h1 j v hj)
    have e2 := run_loadCells_list (P := Try.prog) W ⟨w.heap.size + 1, 0, none⟩ A2 (fun j v hj => by rw [Addr.add_mid]; exact h2 j v hj)
    rw [hL1] at e1
    rw [hL2] at e2
    exact ⟨by simp [loadVar, hA, hZ, e1], by simp [loadVar, hA, hZ, e2]⟩
  obtain ⟨f1, f2⟩ := fin ((w1.drew.setCells w.heap.size 0 A1).setCells (w.heap.size + 1) 0 A2) (World.rangeAt_setCells_apart (World.rangeAt_setCells_same _ _ _ _ ht4) _ _ _ (by omega)) (World.rangeAt_setCells_same _ _ _ _ ht5)
  refine bodyPost_ret (v := .tuple #[.int .i64 (s.size : Int), .int .u8 (z : Int), .agg A1.toArray, .agg A2.toArray]) ?_ rfl ⟨?_, ?_⟩
  · simp [results, Try.results22, asAddr, Result.andThen, f1, f2]
  · rw [HA1.out, HA2.out, HZ0.out]
  · exact below_setCells (by omega) _ _ (below_setCells (Nat.le_refl _) _ _ hbelw.drew)

end Go.Proofs.Qxb6601964a.Rad
