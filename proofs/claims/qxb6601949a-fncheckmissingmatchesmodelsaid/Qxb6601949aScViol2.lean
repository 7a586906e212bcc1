/- THE SCRIPT LAWS: violListMatches. -/
import Derived.Test.Qxb6601949aScViol
import Derived.Test.Qxb6601949aScDelH
namespace Go.Proofs.Qxb6601949a.Sc
open Go.RowKit Go.Maps
set_option linter.unusedVariables false
set_option linter.unusedSimpArgs false

/-- A slice of violations and what hangs on them. -/
structure ViosAt (w : World) (s : Sl) (vs : List Vio) : Prop where
  cells : CellsAt w s 3 (vs.flatMap vioCells)
  el : ∀ v, v ∈ vs → CellsAt w v.is 1 (strsC v.ids) ∧ CellsAt w v.rs 1 (strsC v.reps)
theorem ViosAt.of_below {w w' : World} {s : Sl} {vs : List Vio} (h : ViosAt w s vs) (hb : Below w.heap.size w w') : ViosAt w' s vs :=
  ⟨h.cells.of_below hb, fun v hv => ⟨(h.el v hv).1.of_below hb, (h.el v hv).2.of_below hb⟩⟩
theorem flat_len {α : Type} (f : α → List Value) (sz : Nat) (hf : ∀ x, (f x).length = sz) (l : List α) : (l.flatMap f).length = l.length * sz := by
  induction l with
  | nil => simp
  | cons x r ih => simp [List.flatMap_cons, hf, ih, Nat.succ_mul]; omega
theorem ViosAt.len {w : World} {s : Sl} {vs : List Vio} (h : ViosAt w s vs) : vs.length = s.n := by
  have h1 := h.cells.len
  rw [flat_len vioCells 3 (fun _ => rfl)] at h1
  omega
theorem ViosAt.three {w : World} {s : Sl} {vs : List Vio} (h : ViosAt w s vs) {i : Nat} {v : Vio} (hv : vs[i]? = some v) :
    w.cell? ⟨s.b, s.off + i * 3, none⟩ = some (.string v.kind) ∧ w.cell? ⟨s.b, s.off + i * 3 + 1, none⟩ = some (.slice v.is.a v.is.n v.is.cap) ∧ w.cell? ⟨s.b, s.off + i * 3 + 2, none⟩ = some (.slice v.rs.a v.rs.n v.rs.cap) := by
  have g := flat_get vioCells 3 (fun _ => rfl) vs i v hv
  exact ⟨by have := h.cells.cell _ _ ((g 0 (by omega)).trans rfl); simpa using this, by have := h.cells.cell _ _ ((g 1 (by omega)).trans rfl); simpa [Nat.add_assoc] using this, by have := h.cells.cell _ _ ((g 2 (by omega)).trans rfl); simpa [Nat.add_assoc] using this⟩
theorem zs_len {w : World} {s : Sl} {zs : List Zv} (h : CellsAt w s 5 (zs.flatMap zvC)) : zs.length = s.n := by
  have h1 := h.len
  rw [flat_len zvC 5 (fun _ => rfl)] at h1
  omega
theorem zs_five {w : World} {s : Sl} {zs : List Zv} (h : CellsAt w s 5 (zs.flatMap zvC)) {i : Nat} {z : Zv} (hz : zs[i]? = some z) :
    w.cell? ⟨s.b, s.off + i * 5, none⟩ = some (.string z.kind) ∧ w.cell? ⟨s.b, s.off + i * 5 + 1, none⟩ = some (.string z.id) ∧ w.cell? ⟨s.b, s.off + i * 5 + 2, none⟩ = some (.string z.r1) ∧ w.cell? ⟨s.b, s.off + i * 5 + 3, none⟩ = some (.string z.r2) ∧ w.cell? ⟨s.b, s.off + i * 5 + 4, none⟩ = some (.bool z.two) := by
  have g := flat_get zvC 5 (fun _ => rfl) zs i z hz
  exact ⟨by have := h.cell _ _ ((g 0 (by omega)).trans rfl); simpa using this, by have := h.cell _ _ ((g 1 (by omega)).trans rfl); simpa [Nat.add_assoc] using this, by have := h.cell _ _ ((g 2 (by omega)).trans rfl); simpa [Nat.add_assoc] using this, by have := h.cell _ _ ((g 3 (by omega)).trans rfl); simpa [Nat.add_assoc] using this, by have := h.cell _ _ ((g 4 (by omega)).trans rfl); simpa [Nat.add_assoc] using this⟩

theorem wrap_small (j : Nat) (h : j ≤ 4398046511104) : IntKind.i64.wrap (j : Int) = (j : Int) := by rw [IntKind.wrap_i64]; omega
theorem eight {w w' : World} {p1 p2 p3 p4 p5 p6 p7 p8 : Addr} {v1 v2 v3 v4 v5 v6 v7 v8 : Value} (hb : Below w.drew.heap.size w.drew w') (h : w.cell? p1 = some v1 ∧ w.cell? p2 = some v2 ∧ w.cell? p3 = some v3 ∧ w.cell? p4 = some v4 ∧ w.cell? p5 = some v5 ∧ w.cell? p6 = some v6 ∧ w.cell? p7 = some v7 ∧ w.cell? p8 = some v8) :
    w'.cell? p1 = some v1 ∧ w'.cell? p2 = some v2 ∧ w'.cell? p3 = some v3 ∧ w'.cell? p4 = some v4 ∧ w'.cell? p5 = some v5 ∧ w'.cell? p6 = some v6 ∧ w'.cell? p7 = some v7 ∧ w'.cell? p8 = some v8 := by
  have c : ∀ {p : Addr} {v : Value}, w.cell? p = some v → w'.cell? p = some v := fun {p v} h => (hb.cell (World.block_lt_of_cell? _ _ h)).trans h
  exact ⟨c h.1, c h.2.1, c h.2.2.1, c h.2.2.2.1, c h.2.2.2.2.1, c h.2.2.2.2.2.1, c h.2.2.2.2.2.2.1, c h.2.2.2.2.2.2.2⟩

set_option maxRecDepth 100000 in
set_option maxHeartbeats 2000000 in
theorem violListMatches_any (w : World) (sg sw : Sl) (fr : Nat) (vs : List Vio) (zs : List Zv) (hV : ViosAt w sg vs) (hZ : CellsAt w sw 5 (zs.flatMap zvC)) (hl : vs.length = fr + zs.length) (hb : vs.length ≤ 4398046511104)
    (hm : ∀ i z, zs[i]? = some z → ∃ v, vs[fr + i]? = some v ∧ absV v = vpOf z) :
    Calls Try.prog 26 #[.slice sg.a sg.n sg.cap, .int .i64 (fr : Int), .slice sw.a sw.n sw.cap] w fun e w' => e = .returned (.bool true) ∧ Below w.heap.size w w' := by
  have hl1 := hV.len
  have hl2 := zs_len hZ
  have hlI : (sg.n : Int) = (fr : Int) + (sw.n : Int) := by omega
  have hne : ((sg.n : Int) == (fr : Int) + (sw.n : Int)) = true := beq_iff_eq.2 hlI
  go_enter Try.func26, Try.ntmps26
  go_wp2
  go_loopw [7] (fun i wr => ∃ k : Nat, k ≤ sw.n ∧ i = .int .i64 k ∧ Below w.heap.size w wr) (fun i _ => sw.n - (intOf i).toNat)
  case atStart => exact ⟨0, Nat.zero_le _, rfl, Below.refl _ _⟩
  case round =>
    obtain ⟨k, hk, rfl, hB⟩ := hrel
    by_cases hlt : k < sw.n
    · obtain ⟨wo, rfl⟩ : ∃ wo : World, wo = wr := ⟨_, rfl⟩
      obtain ⟨z, hz⟩ : ∃ z, zs[k]? = some z := ⟨zs[k]'(by omega), List.getElem?_eq_getElem _⟩
      obtain ⟨v, hv, hvz⟩ := hm k z hz
      obtain ⟨j, hj⟩ : ∃ j, j = fr + k := ⟨_, rfl⟩
      rw [← hj] at hv
      have hsum : (fr : Int) + (k : Int) = (j : Int) := by omega
      have hwj : IntKind.i64.wrap (j : Int) = (j : Int) := wrap_small j (by omega)
      have hj0 : (0 : Int) ≤ (j : Int) := by omega
      have hVo := hV.of_below hB
      have hZo := hZ.of_below hB
      obtain ⟨a0, a1, a2⟩ := hVo.three hv
      obtain ⟨b0, b1, b2, b3, b4⟩ := zs_five hZo hz
      obtain ⟨eI, eR⟩ := hVo.el v (List.mem_of_getElem? hv)
      have ha1 := hV.cells.at' (by omega)
      have ha2 := hZ.at' (by omega)
      have hcall := fun (wx : World) (hx : Below wo.heap.size wo wx) => violMatches_any wx v z hvz (eI.of_below hx) (eR.of_below hx)
      have hkI : (k : Int) < (sw.n : Int) := by omega
      have hkG : (j : Int) < (sg.n : Int) := by omega
      have hdr : Below wo.heap.size wo wo.drew := (Below.refl _ wo).drew
      have hlt' : Hid (k < sw.n) := hlt
      have hswb : sw.n ≤ 4398046511104 := by omega
      clear hV hZ hVo hZo hm hl eI eR hz hv hvz hlt hj hlI hne hl1 hl2
      go_upto_region 6 with fail
      go_region_held3 (fun w' => w'.cell? ⟨sg.b, sg.off + j * 3, none⟩ = some (.string v.kind) ∧ w'.cell? ⟨sg.b, sg.off + j * 3 + 1, none⟩ = some (.slice v.is.a v.is.n v.is.cap) ∧ w'.cell? ⟨sg.b, sg.off + j * 3 + 2, none⟩ = some (.slice v.rs.a v.rs.n v.rs.cap) ∧ w'.cell? ⟨sw.b, sw.off + k * 5, none⟩ = some (.string z.kind) ∧ w'.cell? ⟨sw.b, sw.off + k * 5 + 1, none⟩ = some (.string z.id) ∧ w'.cell? ⟨sw.b, sw.off + k * 5 + 2, none⟩ = some (.string z.r1) ∧ w'.cell? ⟨sw.b, sw.off + k * 5 + 3, none⟩ = some (.string z.r2) ∧ w'.cell? ⟨sw.b, sw.off + k * 5 + 4, none⟩ = some (.bool z.two))
        (first | go_keep | exact eight hb1 ⟨a0, a1, a2, b0, b1, b2, b3, b4⟩)
        ((go_at_call 45; refine (hcall _ (by exact hdr)).mono ?_; rintro e w1 ⟨rfl, hb1⟩))
      all_goals go_wp2_with fail
      rw [← ha1, ← ha2]
      go_roundw
      case rel => exact ⟨k + 1, hlt'.out, by have := hlt'.out; clear hwj hsum hcall; go_num, below_next hB (below_next hdr hb1)⟩
      case measure => have := hlt'.out; clear hwj hsum hcall; simp [intOf]; omega
    · obtain rfl : k = sw.n := by omega
      clear hV hZ hm
      go_wp2
      go_ret
      exact ⟨rfl, hB⟩

end Go.Proofs.Qxb6601949a.Sc
