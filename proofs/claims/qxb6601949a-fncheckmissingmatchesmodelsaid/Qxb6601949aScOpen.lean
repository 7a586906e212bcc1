/- THE SCRIPT LAWS: the arguments, opened. -/
import Derived.Test.Qxb6601949aScHist
import Derived.Deep.Slices
namespace Go.Proofs.Qxb6601949a.Sc
open Go.RowKit Go.Maps Go.Deep
set_option linter.unusedVariables false
set_option linter.unusedSimpArgs false

theorem cells9 : Try.prog.cellsOf 9 = 1 := by kernel_rfl
theorem cells4 : Try.prog.cellsOf 4 = 1 := by kernel_rfl
theorem cells3 : Try.prog.cellsOf 3 = 1 := by kernel_rfl
theorem cells42 : Try.prog.cellsOf 42 = 1 := by kernel_rfl
theorem cells43 : Try.prog.cellsOf 43 = 1 := by kernel_rfl
theorem cells44 : Try.prog.cellsOf 44 = 1 := by kernel_rfl
theorem cells62 : Try.prog.cellsOf 62 = 3 := by kernel_rfl
theorem cells67 : Try.prog.cellsOf 67 = 2 := by kernel_rfl
theorem cells46 : Try.prog.cellsOf 46 = 5 := by kernel_rfl

section
variable {H : Type} {enc : TypeId × Value → H} {w : World} {spare : Nat → Bool} {held : Bool}

/-- A slice in memory: its cells, element by element. -/
theorem open_any {t e : TypeId} {sz fuel : Nat} {v : Value} {x : DataW H × List MemPlace} (ht : Try.prog.underlying t = some (.slice e)) (hc : Try.prog.cellsOf e = sz) (hsz : 0 < sz) (h : DataW.trod enc Try.prog w 0 spare held fuel t [v] = some x) :
    ∃ s : Sl, v = .slice s.a s.n s.cap ∧ (0 < s.n → s.a = some ⟨s.b, s.off, none⟩) ∧ (s.a = none → s.n = 0) ∧
      ∀ i, i < s.n → ∃ (cs' : List Value) (n : Nat) (y : DataW H × List MemPlace), cs'.length = sz ∧ (∀ r u, cs'[r]? = some u → w.cell? ⟨s.b, s.off + i * sz + r, none⟩ = some u) ∧ DataW.trod enc Try.prog w 0 spare held n e cs' = some y := by
  rcases open_slice ht h with ⟨h1, _⟩ | ⟨a, len, cap, m, n, D, Pl, h1, _, hl, _, hm, _, hx⟩
  · simp at h1
    exact ⟨⟨none, 0, 0, 0, 0⟩, h1, fun h => by simp at h, fun _ => rfl, fun i h => by simp at h⟩
  · simp at h1
    have hlm : len ≤ m := by rw [hm]; split <;> omega
    have hspot : 0 < len → a = ⟨a.block, a.off, none⟩ := fun h0 => by
      obtain ⟨cs', h2, _⟩ := hx 0 (by omega)
      rw [hc] at h2
      obtain ⟨_, hlen, hcell⟩ := World.cells?_some h2
      have h3 := hcell 0 hsz
      rw [List.getElem?_eq_getElem (by omega)] at h3
      obtain ⟨ab, ao, asp⟩ := a
      have : asp = none := by simpa [Addr.add] using World.cell?_spot h3
      subst this; rfl
    refine ⟨⟨some a, a.block, a.off, len, cap⟩, h1, fun h0 => by rw [← hspot h0], (fun hh => by cases hh), fun i hi => ?_⟩
    obtain ⟨cs', h2, h3⟩ := hx i (by have : i < len := hi; omega)
    rw [hc] at h2
    obtain ⟨_, hlen, hcell⟩ := World.cells?_some h2
    refine ⟨cs', n, _, hlen, fun r u hu => ?_, h3⟩
    have hr : r < sz := by have := get_lt hu; omega
    have h4 := hcell r hr
    rw [add_add, hu, hspot (by have : i < len := hi; omega), Addr.add_lit] at h4
    show w.cell? ⟨a.block, a.off + i * sz + r, none⟩ = _
    rw [Nat.add_assoc]
    exact h4

theorem flat_cells {α : Type} {f : α → List Value} {sz : Nat} (hf : ∀ x, (f x).length = sz) (hsz : 0 < sz) {s : Sl} {xs : List α} (hl : xs.length = s.n) (ha : 0 < s.n → s.a = some ⟨s.b, s.off, none⟩) (hn : s.a = none → s.n = 0)
    (h : ∀ (i : Nat) (x : α), xs[i]? = some x → ∀ (r : Nat) (u : Value), (f x)[r]? = some u → w.cell? ⟨s.b, s.off + i * sz + r, none⟩ = some u) : CellsAt w s sz (xs.flatMap f) := by
  refine ⟨by rw [flat_len f sz hf, hl], ha, hn, fun j v hj => ?_⟩
  have hjl : j < xs.length * sz := by have := get_lt hj; rwa [flat_len f sz hf] at this
  have hi : j / sz < xs.length := by rw [Nat.div_lt_iff_lt_mul hsz]; exact hjl
  have hr : j % sz < sz := Nat.mod_lt _ hsz
  have he : j / sz * sz + j % sz = j := by rw [Nat.mul_comm]; exact Nat.div_add_mod j sz
  have hx : xs[j / sz]? = some xs[j / sz] := List.getElem?_eq_getElem hi
  have h1 := flat_get f sz hf xs (j / sz) _ hx (j % sz) hr
  rw [he, hj] at h1
  have h2 := h (j / sz) _ hx (j % sz) v h1.symm
  rwa [Nat.add_assoc, he] at h2

theorem strsC_flat (ss : List ByteArray) : strsC ss = ss.flatMap fun x => [.string x] := by
  induction ss with
  | nil => rfl
  | cons x r ih => rw [List.flatMap_cons, ← ih]; rfl
theorem keysC_flat (ss : List (ByteArray × Bool)) : keysC ss = ss.flatMap fun x => [.string x.1, .bool x.2] := by
  induction ss with
  | nil => rfl
  | cons x r ih => rw [List.flatMap_cons, ← ih]; rfl
theorem logsC_flat (ss : List Lp) : logsC ss = ss.flatMap fun x => [.string x.path, .string x.rep, .string x.grp] := by
  induction ss with
  | nil => rfl
  | cons x r ih => rw [List.flatMap_cons, ← ih]; rfl

/-- From 'each has one' to a list. -/
theorem list_of {α : Type} {n : Nat} {p : Nat → α → Prop} (h : ∀ i, i < n → ∃ x, p i x) : ∃ xs : List α, xs.length = n ∧ ∀ i x, xs[i]? = some x → p i x := by
  induction n with
  | zero => exact ⟨[], rfl, fun i x h => by simp at h⟩
  | succ n ih =>
    obtain ⟨xs, h1, h2⟩ := ih (fun i hi => h i (by omega))
    obtain ⟨y, hy⟩ := h n (Nat.lt_succ_self n)
    refine ⟨xs ++ [y], by simp [h1], fun i x hx => ?_⟩
    by_cases e : i < xs.length
    · rw [List.getElem?_append_left e] at hx; exact h2 i x hx
    · have : i = n := by have := get_lt hx; simp at this; omega
      subst this
      rw [List.getElem?_append_right (by omega), h1, Nat.sub_self] at hx
      simp at hx
      subst hx
      exact hy

theorem len2 {l : List Value} (h : l.length = 2) : ∃ a b, l = [a, b] := by
  match l, h with
  | [a, b], _ => exact ⟨a, b, rfl⟩
theorem len3 {l : List Value} (h : l.length = 3) : ∃ a b c, l = [a, b, c] := by
  match l, h with
  | [a, b, c], _ => exact ⟨a, b, c, rfl⟩
theorem len5 {l : List Value} (h : l.length = 5) : ∃ a b c d e, l = [a, b, c, d, e] := by
  match l, h with
  | [a, b, c, d, e], _ => exact ⟨a, b, c, d, e, rfl⟩

theorem open_strs {fuel : Nat} {v : Value} {x : DataW H × List MemPlace} (h : DataW.trod enc Try.prog w 0 spare held fuel 43 [v] = some x) : ∃ (s : Sl) (ss : List ByteArray), v = .slice s.a s.n s.cap ∧ CellsAt w s 1 (strsC ss) := by
  obtain ⟨s, hv, ha, hn, hx⟩ := open_any Try.underlying43 cells9 (by omega) h
  obtain ⟨ss, hl, hs⟩ := list_of (p := fun i (x : ByteArray) => w.cell? ⟨s.b, s.off + i * 1 + 0, none⟩ = some (.string x)) (fun i hi => by
    obtain ⟨cs', n, y, h1, h2, h3⟩ := hx i hi
    obtain ⟨b, rfl, _⟩ := DataW.trod_string Try.underlying9 h3
    exact ⟨b, h2 0 _ rfl⟩)
  refine ⟨s, ss, hv, ?_⟩
  rw [strsC_flat]
  refine flat_cells (sz := 1) (fun _ => rfl) (by omega) hl ha hn (fun i x hi r u hr => ?_)
  match r, hr with
  | 0, hr => simp at hr; subst hr; exact hs i x hi

set_option maxRecDepth 100000 in
theorem open_keys {fuel : Nat} {v : Value} {x : DataW H × List MemPlace} (h : DataW.trod enc Try.prog w 0 spare held fuel 44 [v] = some x) : ∃ (s : Sl) (ss : List (ByteArray × Bool)), v = .slice s.a s.n s.cap ∧ CellsAt w s 2 (keysC ss) := by
  obtain ⟨s, hv, ha, hn, hx⟩ := open_any Try.underlying44 cells67 (by omega) h
  obtain ⟨ss, hl, hs⟩ := list_of (p := fun i (x : ByteArray × Bool) => w.cell? ⟨s.b, s.off + i * 2 + 0, none⟩ = some (.string x.1) ∧ w.cell? ⟨s.b, s.off + i * 2 + 1, none⟩ = some (.bool x.2)) (fun i hi => by
    obtain ⟨cs', n, y, h1, h2, h3⟩ := hx i hi
    obtain ⟨xs, m, _, _, _, hxl, hf⟩ := DataW.trod_struct Try.underlying67 h3
    obtain ⟨c0, c1, rfl⟩ := len2 h1
    have g0 : DataW.trod enc Try.prog w 0 spare held m 9 (([c0, c1].drop 0).take (Try.prog.cellsOf 9)) = xs[0]? := hf 0 _ rfl
    rw [cells9, List.getElem?_eq_getElem (by rw [hxl]; show 0 < 2; decide)] at g0
    have g1 : DataW.trod enc Try.prog w 0 spare held m 4 (([c0, c1].drop 1).take (Try.prog.cellsOf 4)) = xs[1]? := hf 1 _ rfl
    rw [cells4, List.getElem?_eq_getElem (by rw [hxl]; show 1 < 2; decide)] at g1
    obtain ⟨b0, e0, _⟩ := DataW.trod_string Try.underlying9 g0
    obtain ⟨b1, e1, _⟩ := DataW.trod_bool Try.underlying4 g1
    simp at e0 e1
    subst e0 e1
    exact ⟨(b0, b1), h2 0 _ rfl, h2 1 _ rfl⟩)
  refine ⟨s, ss, hv, ?_⟩
  rw [keysC_flat]
  refine flat_cells (sz := 2) (fun _ => rfl) (by omega) hl ha hn (fun i x hi r u hr => ?_)
  match r, hr with
  | 0, hr => simp at hr; subst hr; exact (hs i x hi).1
  | 1, hr => simp at hr; subst hr; exact (hs i x hi).2

set_option maxRecDepth 100000 in
theorem open_logs {fuel : Nat} {v : Value} {x : DataW H × List MemPlace} (h : DataW.trod enc Try.prog w 0 spare held fuel 28 [v] = some x) : ∃ (s : Sl) (ss : List Lp), v = .slice s.a s.n s.cap ∧ CellsAt w s 3 (logsC ss) := by
  obtain ⟨s, hv, ha, hn, hx⟩ := open_any Try.underlying28 cells62 (by omega) h
  obtain ⟨ss, hl, hs⟩ := list_of (p := fun i (x : Lp) => w.cell? ⟨s.b, s.off + i * 3 + 0, none⟩ = some (.string x.path) ∧ w.cell? ⟨s.b, s.off + i * 3 + 1, none⟩ = some (.string x.rep) ∧ w.cell? ⟨s.b, s.off + i * 3 + 2, none⟩ = some (.string x.grp)) (fun i hi => by
    obtain ⟨cs', n, y, h1, h2, h3⟩ := hx i hi
    obtain ⟨xs, m, _, _, _, hxl, hf⟩ := DataW.trod_struct Try.underlying62 h3
    obtain ⟨c0, c1, c2, rfl⟩ := len3 h1
    have g0 : DataW.trod enc Try.prog w 0 spare held m 9 (([c0, c1, c2].drop 0).take (Try.prog.cellsOf 9)) = xs[0]? := hf 0 _ rfl
    rw [cells9, List.getElem?_eq_getElem (by rw [hxl]; show 0 < 3; decide)] at g0
    have g1 : DataW.trod enc Try.prog w 0 spare held m 9 (([c0, c1, c2].drop 1).take (Try.prog.cellsOf 9)) = xs[1]? := hf 1 _ rfl
    rw [cells9, List.getElem?_eq_getElem (by rw [hxl]; show 1 < 3; decide)] at g1
    have g2 : DataW.trod enc Try.prog w 0 spare held m 9 (([c0, c1, c2].drop 2).take (Try.prog.cellsOf 9)) = xs[2]? := hf 2 _ rfl
    rw [cells9, List.getElem?_eq_getElem (by rw [hxl]; show 2 < 3; decide)] at g2
    obtain ⟨b0, e0, _⟩ := DataW.trod_string Try.underlying9 g0
    obtain ⟨b1, e1, _⟩ := DataW.trod_string Try.underlying9 g1
    obtain ⟨b2, e2, _⟩ := DataW.trod_string Try.underlying9 g2
    simp at e0 e1 e2
    subst e0 e1 e2
    exact ⟨⟨b0, b1, b2⟩, h2 0 _ rfl, h2 1 _ rfl, h2 2 _ rfl⟩)
  refine ⟨s, ss, hv, ?_⟩
  rw [logsC_flat]
  refine flat_cells (sz := 3) (fun _ => rfl) (by omega) hl ha hn (fun i x hi r u hr => ?_)
  match r, hr with
  | 0, hr => simp at hr; subst hr; exact (hs i x hi).1
  | 1, hr => simp at hr; subst hr; exact (hs i x hi).2.1
  | 2, hr => simp at hr; subst hr; exact (hs i x hi).2.2

set_option maxRecDepth 100000 in
theorem open_dels {fuel : Nat} {v : Value} {x : DataW H × List MemPlace} (h : DataW.trod enc Try.prog w 0 spare held fuel 29 [v] = some x) : ∃ (s : Sl) (ds : List Dp), v = .slice s.a s.n s.cap ∧ DsAt w s ds := by
  obtain ⟨s, hv, ha, hn, hx⟩ := open_any Try.underlying29 cells46 (by omega) h
  obtain ⟨ds, hl, hs⟩ := list_of (p := fun i (d : Dp) => ∃ t k : Sl, DelAt w s.b (s.off + i * 5) d t k) (fun i hi => by
    obtain ⟨cs', n, y, h1, h2, h3⟩ := hx i hi
    obtain ⟨xs, m, _, _, _, hxl, hf⟩ := DataW.trod_struct Try.underlying46 h3
    obtain ⟨c0, c1, c2, c3, c4, rfl⟩ := len5 h1
    have g0 : DataW.trod enc Try.prog w 0 spare held m 3 (([c0, c1, c2, c3, c4].drop 0).take (Try.prog.cellsOf 3)) = xs[0]? := hf 0 _ rfl
    rw [cells3, List.getElem?_eq_getElem (by rw [hxl]; show 0 < 5; decide)] at g0
    have g1 : DataW.trod enc Try.prog w 0 spare held m 9 (([c0, c1, c2, c3, c4].drop 1).take (Try.prog.cellsOf 9)) = xs[1]? := hf 1 _ rfl
    rw [cells9, List.getElem?_eq_getElem (by rw [hxl]; show 1 < 5; decide)] at g1
    have g2 : DataW.trod enc Try.prog w 0 spare held m 42 (([c0, c1, c2, c3, c4].drop 2).take (Try.prog.cellsOf 42)) = xs[2]? := hf 2 _ rfl
    rw [cells42, List.getElem?_eq_getElem (by rw [hxl]; show 2 < 5; decide)] at g2
    have g3 : DataW.trod enc Try.prog w 0 spare held m 43 (([c0, c1, c2, c3, c4].drop 3).take (Try.prog.cellsOf 43)) = xs[3]? := hf 3 _ rfl
    rw [cells43, List.getElem?_eq_getElem (by rw [hxl]; show 3 < 5; decide)] at g3
    have g4 : DataW.trod enc Try.prog w 0 spare held m 44 (([c0, c1, c2, c3, c4].drop 4).take (Try.prog.cellsOf 44)) = xs[4]? := hf 4 _ rfl
    rw [cells44, List.getElem?_eq_getElem (by rw [hxl]; show 4 < 5; decide)] at g4
    obtain ⟨b0, e0, _⟩ := DataW.trod_int Try.underlying3 g0
    obtain ⟨b1, e1, _⟩ := DataW.trod_string Try.underlying9 g1
    obtain ⟨b2, e2, _⟩ := DataW.trod_int Try.underlying42 g2
    have g3' : DataW.trod enc Try.prog w 0 spare held m 43 [c3] = _ := g3
    have g4' : DataW.trod enc Try.prog w 0 spare held m 44 [c4] = _ := g4
    obtain ⟨t, tt, e3, h5⟩ := open_strs g3'
    obtain ⟨k, kk, e4, h6⟩ := open_keys g4'
    simp at e0 e1 e2
    subst e0 e1 e2 e3 e4
    exact ⟨⟨b0, b1, b2, tt, kk⟩, t, k, ⟨h2 0 _ rfl, h2 1 _ rfl, h2 2 _ rfl, h2 3 _ rfl, h2 4 _ rfl, h5, h6⟩⟩)
  exact ⟨s, ds, hv, ⟨hl, ha, hn, hs⟩⟩
end

end Go.Proofs.Qxb6601949a.Sc
