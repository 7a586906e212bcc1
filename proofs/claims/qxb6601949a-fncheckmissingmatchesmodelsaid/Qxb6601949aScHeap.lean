/- THE SCRIPT LAWS: blocks with tags (who may write them), owned rows, raw maps. -/
import Derived.Test.Qxb6601949aScRead2
import Derived.Maps.OwnSet
import Derived.Deep.AppendLies
import Derived.StringKeys
namespace Go.Proofs.Qxb6601949a.Sc
open Go.RowKit Go.Maps
set_option linter.unusedVariables false
set_option linter.unusedSimpArgs false

/-- From w to w' only blocks that bear the tag t have been written, and new ones made. -/
structure Keep (T T' : Nat → Nat) (t : Nat) (w w' : World) : Prop where
  os : w'.os = w.os
  tape : w'.tape = w.tape
  output : w'.output = w.output
  size : w.heap.size ≤ w'.heap.size
  tag : ∀ b, b < w.heap.size → T' b = T b
  block : ∀ b, b < w.heap.size → T b ≠ t → w'.heap[b]? = w.heap[b]?
/-- .. blocks without a tag have not been written. -/
structure Keep0 (T T' : Nat → Nat) (w w' : World) : Prop where
  os : w'.os = w.os
  tape : w'.tape = w.tape
  output : w'.output = w.output
  size : w.heap.size ≤ w'.heap.size
  tag : ∀ b, b < w.heap.size → T' b = T b
  block : ∀ b, b < w.heap.size → T b = 0 → w'.heap[b]? = w.heap[b]?

theorem Keep.zero {T T' : Nat → Nat} {t : Nat} {w w' : World} (h : Keep T T' t w w') (ht : t ≠ 0) : Keep0 T T' w w' :=
  ⟨h.os, h.tape, h.output, h.size, h.tag, fun b hb hz => h.block b hb (by rw [hz]; exact Ne.symm ht)⟩
theorem Keep.refl (T : Nat → Nat) (t : Nat) (w : World) : Keep T T t w w := ⟨rfl, rfl, rfl, Nat.le_refl _, fun _ _ => rfl, fun _ _ _ => rfl⟩
theorem Keep0.refl (T : Nat → Nat) (w : World) : Keep0 T T w w := ⟨rfl, rfl, rfl, Nat.le_refl _, fun _ _ => rfl, fun _ _ _ => rfl⟩
theorem Keep0.trans {T T' T'' : Nat → Nat} {a b c : World} (h : Keep0 T T' a b) (k : Keep0 T' T'' b c) : Keep0 T T'' a c :=
  ⟨k.os.trans h.os, k.tape.trans h.tape, k.output.trans h.output, Nat.le_trans h.size k.size, fun i hi => (k.tag i (by have := h.size; omega)).trans (h.tag i hi),
    fun i hi hz => (k.block i (by have := h.size; omega) (by rw [h.tag i hi]; exact hz)).trans (h.block i hi hz)⟩
theorem Keep.trans {T T' T'' : Nat → Nat} {t : Nat} {a b c : World} (h : Keep T T' t a b) (k : Keep T' T'' t b c) : Keep T T'' t a c :=
  ⟨k.os.trans h.os, k.tape.trans h.tape, k.output.trans h.output, Nat.le_trans h.size k.size, fun i hi => (k.tag i (by have := h.size; omega)).trans (h.tag i hi),
    fun i hi hz => (k.block i (by have := h.size; omega) (by rw [h.tag i hi]; exact hz)).trans (h.block i hi hz)⟩
theorem Keep0.below {T T' : Nat → Nat} {w w' : World} (h : Keep0 T T' w w') {B : Nat} (hB : ∀ b, b < B → T b = 0) (hs : B ≤ w.heap.size) : Below B w w' :=
  ⟨h.os, h.tape, h.output, h.size, fun b hb => h.block b (by omega) (hB b hb)⟩
theorem Keep.below {T T' : Nat → Nat} {t : Nat} {w w' : World} (h : Keep T T' t w w') {B : Nat} (ht : t ≠ 0) (hB : ∀ b, b < B → T b = 0) (hs : B ≤ w.heap.size) : Below B w w' :=
  (h.zero ht).below hB hs
/-- Nothing old has been written. -/
theorem Keep.ofBelow {T : Nat → Nat} {w w' : World} (h : Below w.heap.size w w') (t : Nat) : Keep T (fun b => if b < w.heap.size then T b else 0) t w w' :=
  ⟨h.os, h.tape, h.output, h.size, fun b hb => if_pos hb, fun b hb _ => h.block b hb⟩
theorem Keep.drewN (T : Nat → Nat) (t : Nat) (w : World) (m : Nat) : Keep T T t w (w.drewN m) :=
  let h : Below w.heap.size w (w.drewN m) := ⟨rfl, rfl, rfl, Nat.le_refl _, fun _ _ => rfl⟩
  ⟨h.os, h.tape, h.output, h.size, fun _ _ => rfl, fun b hb _ => h.block b hb⟩

/-! ### What is never written again -/
structure Imm (w : World) (T : Nat → Nat) (s : Sl) (size : Nat) (cs : List Value) : Prop where
  cells : CellsAt w s size cs
  tag : 0 < s.n → T s.b = 0
theorem Imm.keep0 {w w' : World} {T T' : Nat → Nat} {s : Sl} {size : Nat} {cs : List Value} (h : Imm w T s size cs) (hs : 0 < size) (k : Keep0 T T' w w') : Imm w' T' s size cs := by
  by_cases hn : 0 < s.n
  · have hlt : s.b < w.heap.size := h.cells.lt (by rw [h.cells.len]; exact Nat.mul_pos hn hs)
    exact ⟨h.cells.of_block (k.block _ hlt (h.tag hn)), fun _ => (k.tag _ hlt).trans (h.tag hn)⟩
  · refine ⟨⟨h.cells.len, h.cells.at', h.cells.nil, fun j v hj => ?_⟩, fun hh => absurd hh hn⟩
    have : cs = [] := List.eq_nil_of_length_eq_zero (by rw [h.cells.len]; simp [Nat.eq_zero_of_not_pos hn])
    rw [this] at hj; simp at hj
theorem Imm.keep {w w' : World} {T T' : Nat → Nat} {t : Nat} {s : Sl} {size : Nat} {cs : List Value} (h : Imm w T s size cs) (hs : 0 < size) (k : Keep T T' t w w') (ht : t ≠ 0) : Imm w' T' s size cs := h.keep0 hs (k.zero ht)

/-! ### Rows that one holder alone may write -/
structure Own (w : World) (T : Nat → Nat) (t : Nat) (e : TypeId) (size : Nat) (v : Value) (n : Nat) (xs : List Value) : Prop where
  row : w.ownsRow 0 e size v n xs
  tag : ∀ b, v.ownBlock = some b → T b = t
theorem ownsRow_blocks {w w' : World} {base : Nat} {e : TypeId} {size : Nat} {v : Value} {n : Nat} {xs : List Value} (h : w.ownsRow base e size v n xs) (hb : ∀ b, v.ownBlock = some b → w'.heap[b]? = w.heap[b]?) : w'.ownsRow base e size v n xs := by
  refine ⟨h.1, ?_⟩
  rcases h.2 with hn | ⟨g, cap, cur, rfl, hbb, hgg, rest⟩
  · exact .inl hn
  · exact .inr ⟨g, cap, cur, rfl, hbb, by rw [hb g rfl]; exact hgg, rest⟩
theorem Own.nil (w : World) (T : Nat → Nat) (t : Nat) (e : TypeId) (size : Nat) : Own w T t e size (.slice none 0 0) 0 [] := ⟨World.ownsRow_nil _ _ _ _, fun b hb => by simp [Value.ownBlock] at hb⟩
theorem Own.keep {w w' : World} {T T' : Nat → Nat} {t t' : Nat} {e : TypeId} {size : Nat} {v : Value} {n : Nat} {xs : List Value} (h : Own w T t e size v n xs) (k : Keep T T' t' w w') (ht : t ≠ t') : Own w' T' t e size v n xs :=
  ⟨ownsRow_blocks h.row fun b hb => k.block b (h.row.lt b hb).2 (by rw [h.tag b hb]; exact ht), fun b hb => (k.tag b (h.row.lt b hb).2).trans (h.tag b hb)⟩
theorem Own.form {w : World} {T : Nat → Nat} {t : Nat} {e : TypeId} {size : Nat} {v : Value} {n : Nat} {xs : List Value} (h : Own w T t e size v n xs) : ∃ (b cap : Nat) (a : Option Addr), v = .slice a n cap ∧ (0 < n → a = some ⟨b, 0, none⟩) := by
  rcases h.row.2 with ⟨h1, h2⟩ | ⟨g, cap, cur, h1, _⟩
  · exact ⟨0, 0, none, by rw [h1, h2], fun h => by omega⟩
  · exact ⟨g, cap, _, h1, fun _ => rfl⟩
/-- What lies behind an owned row, as cells. -/
theorem Own.cells {w : World} {T : Nat → Nat} {t : Nat} {e : TypeId} {size : Nat} {v : Value} {n : Nat} {xs : List Value} (h : Own w T t e size v n xs) : ∃ s : Sl, v = .slice s.a s.n s.cap ∧ s.n = n ∧ CellsAt w s size xs ∧ (0 < n → s.off = 0 ∧ v.ownBlock = some s.b) := by
  rcases h.row.2 with ⟨h1, h2⟩ | ⟨g, cap, cur, h1, _⟩
  · refine ⟨⟨none, 0, 0, 0, 0⟩, h1, h2.symm, ⟨by rw [h.row.1, h2], fun h => by simp at h, fun _ => rfl, fun j u hj => ?_⟩, fun hh => by omega⟩
    have : xs = [] := List.eq_nil_of_length_eq_zero (by rw [h.row.1, h2]; simp)
    rw [this] at hj; simp at hj
  · refine ⟨⟨some ⟨g, 0, none⟩, g, 0, n, cap⟩, h1, rfl, ⟨h.row.1, fun _ => rfl, (fun hh => by cases hh), fun j u hj => ?_⟩, fun _ => ⟨rfl, by rw [h1]; rfl⟩⟩
    have h2 := h.row
    rw [h1] at h2
    show w.cell? ⟨g, 0 + j, none⟩ = some u
    rw [Nat.zero_add, h2.cellAt j (by have := (List.getElem?_eq_some_iff.1 hj).1; rw [h.row.1] at this; exact this), hj]

/-- WHAT AN APPEND LEAVES, in tags. -/
theorem Own.appended {w w0 w' : World} {T : Nat → Nat} {t : Nat} {e : TypeId} {size : Nat} {v v' : Value} {n n' : Nat} {xs xs' : List Value} (h : Own w T t e size v n xs)
    (h0 : Below w.heap.size w w0) (hr : w'.ownsRow 0 e size v' n' xs') (hg : w0.grownBy w' v.ownBlock) (g : Nat) (hv : v'.ownBlock = some g) (hat : v.ownBlock = some g ∨ w.heap.size ≤ g) :
    ∃ T', Keep T T' t w w' ∧ Own w' T' t e size v' n' xs' := by
  refine ⟨fun b => if b < w.heap.size then T b else if b = g then t else 0, ⟨hg.os.trans h0.os, hg.tape.trans h0.tape, hg.output.trans h0.output, Nat.le_trans h0.size hg.size, fun b hb => if_pos hb, fun b hb hne => ?_⟩, ⟨hr, fun b hb => ?_⟩⟩
  · rw [hg.block b (Nat.lt_of_lt_of_le hb h0.size) (fun hh => hne (h.tag b hh.symm)), h0.block b hb]
  · rw [hv] at hb
    cases hb
    show (if g < w.heap.size then T g else if g = g then t else 0) = t
    rcases hat with ha | ha
    · rw [if_pos (h.row.lt g ha).2]; exact h.tag g ha
    · rw [if_neg (by omega), if_pos rfl]

/-! ### A block of cells known whole -/
def Blk (w : World) (b : Nat) (ty : TypeId) (cs : Array Value) : Prop := w.heap[b]? = some (.cells cs ty (0, 0))
theorem Blk.lt {w : World} {b : Nat} {ty : TypeId} {cs : Array Value} (h : Blk w b ty cs) : b < w.heap.size := (Array.getElem?_eq_some_iff.1 h).1
theorem Blk.cell {w : World} {b : Nat} {ty : TypeId} {cs : Array Value} (h : Blk w b ty cs) (i : Nat) : w.cell? ⟨b, i, none⟩ = cs[i]? := cell_of_row w b i cs ty (0, 0) h
theorem Blk.frozen {w : World} {b : Nat} {ty : TypeId} {cs : Array Value} (h : Blk w b ty cs) (i : Nat) : w.frozen? ⟨b, i, none⟩ = false := frozen_of_row w b i cs ty h
theorem Blk.set {w : World} {b : Nat} {ty : TypeId} {cs : Array Value} (h : Blk w b ty cs) (i : Nat) (u : Value) : Blk (w.setCell ⟨b, i, none⟩ u) b ty (cs.setIfInBounds i u) := heap_setCell_same w b i cs ty u h
theorem Blk.keep {w w' : World} {T T' : Nat → Nat} {t : Nat} {b : Nat} {ty : TypeId} {cs : Array Value} (h : Blk w b ty cs) (k : Keep T T' t w w') (ht : T b ≠ t) : Blk w' b ty cs := (k.block b h.lt ht).trans h
theorem Blk.of_below {w w' : World} {b : Nat} {ty : TypeId} {cs : Array Value} (h : Blk w b ty cs) (k : Below w.heap.size w w') : Blk w' b ty cs := (k.block b h.lt).trans h
theorem Keep.set (T : Nat → Nat) (w : World) (b i : Nat) (u : Value) : Keep T T (T b) w (w.setCell ⟨b, i, none⟩ u) :=
  ⟨rfl, rfl, rfl, by simp, fun _ _ => rfl, fun c _ hne => heap_setCell_other w ⟨b, i, none⟩ c u (fun e => hne (by rw [show c = b from e]))⟩

/-! ### Raw maps keyed by strings -/
def rawR (v : Value) : Option (DataW Value × List MemPlace) := some (.held v, [])
def MapAt (w : World) (b n : Nat) (f : ByteArray → Option Value) : Prop :=
  ∃ D : DataW Value, w.ownsMap Try.prog 9 rawR b n D ∧ ∀ x : ByteArray, Maps.has D (.string x.data.toList) = (f x).isSome ∧ ∀ v, f x = some v → ∀ z, D.atKey (.string x.data.toList) z = .held v
theorem law9 : Keyed Try.prog 9 := string_keyed Try.underlying9
theorem MapAt.of_block {w w' : World} {b n : Nat} {f : ByteArray → Option Value} (h : MapAt w b n f) (hb : w'.heap[b]? = w.heap[b]?) : MapAt w' b n f := by
  obtain ⟨D, ⟨es, clock, h1, h2⟩, h3⟩ := h
  exact ⟨D, ⟨es, clock, hb.trans h1, h2⟩, h3⟩
theorem MapAt.lt {w : World} {b n : Nat} {f : ByteArray → Option Value} (h : MapAt w b n f) : b < w.heap.size := by
  obtain ⟨D, h1, _⟩ := h
  exact h1.lt
theorem MapAt.keep {w w' : World} {T T' : Nat → Nat} {t : Nat} {b n : Nat} {f : ByteArray → Option Value} (h : MapAt w b n f) (k : Keep T T' t w w') (ht : T b ≠ t) : MapAt w' b n f := h.of_block (k.block b h.lt ht)
theorem MapAt.made (w : World) : MapAt (w.alloc (.map #[] 0)) w.heap.size 0 (fun _ => none) :=
  ⟨.map [], World.ownsMap_made _ _ _ _, fun x => ⟨rfl, fun v hv => by cases hv⟩⟩
theorem data_inj {x y : ByteArray} (h : (Lit.string x.data.toList) = .string y.data.toList) : x = y := by
  cases x; cases y
  simp only [Lit.string.injEq] at h
  simp_all [Array.toList_inj]
theorem MapAt.update {w : World} {b n : Nat} {f : ByteArray → Option Value} (h : MapAt w b n f) {t e : TypeId} (ht : Try.prog.underlying t = some (.map 9 e)) (hn : n < maxLen) (x : ByteArray) (hx : x.size ≤ maxLen) (v : Value) :
    ∃ w', (Instr.mapUpdate t (.map (some b)) (.string x) v).run Try.prog w = .ok () w' ∧ MapAt w' b (n + 1) (fun y => if y = x then some v else f y) ∧ w.grownBy w' (some b) := by
  obtain ⟨D, h1, h3⟩ := h
  obtain ⟨w', hr, h4, h5⟩ := h1.update law9 ht hn (val := v) (d := .held v) (ps := []) (Go.WideMaps.keyOf_string_mk Try.underlying9 hx) rfl
  refine ⟨w', hr, ⟨_, h4, fun y => ?_⟩, h5⟩
  by_cases e : y = x
  · subst e
    simp only [if_pos]
    exact ⟨has_put_same h1.isMap (show WideAt.IsKeyLit (Lit.string y.data.toList) from trivial) _, fun u hu z => by cases hu; exact atKey_put_same h1.isMap (show WideAt.IsKeyLit (Lit.string y.data.toList) from trivial) _ _⟩
  · simp only [if_neg e]
    have hne : (Lit.string y.data.toList) ≠ .string x.data.toList := fun hh => e (data_inj hh)
    refine ⟨(has_put_other hne _).trans (h3 y).1, fun u hu z => ?_⟩
    rw [atKey_put_other hne]
    exact (h3 y).2 u hu z
theorem MapAt.look {w : World} {b n : Nat} {f : ByteArray → Option Value} (h : MapAt w b n f) {t e : TypeId} (ht : Try.prog.underlying t = some (.map 9 e)) {z : Value} (hz : (zeroValue e).run Try.prog w = .ok z w) (x : ByteArray) (hx : x.size ≤ maxLen) :
    (Instr.lookup t (.map (some b)) (.string x) false).run Try.prog w = .ok ((f x).getD z) w := by
  obtain ⟨D, h1, h3⟩ := h
  obtain ⟨v, ps, hr, hv⟩ := h1.lookup law9 ht hz (zd := .held z) (zp := []) rfl (Go.WideMaps.keyOf_string_mk Try.underlying9 hx)
  rw [hr]
  have h4 : v = (f x).getD z := by
    cases hf : f x with
    | none =>
      have := (h3 x).1
      rw [hf] at this
      rw [atKey_of_not_has this] at hv
      simp only [rawR, Option.some.injEq, Prod.mk.injEq, DataW.held.injEq] at hv
      exact hv.1
    | some u =>
      rw [(h3 x).2 u hf] at hv
      simp only [rawR, Option.some.injEq, Prod.mk.injEq, DataW.held.injEq] at hv
      exact hv.1
  rw [h4]
theorem MapAt.look_ok {w : World} {b n : Nat} {f : ByteArray → Option Value} (h : MapAt w b n f) {t e : TypeId} (ht : Try.prog.underlying t = some (.map 9 e)) {z : Value} (hz : (zeroValue e).run Try.prog w = .ok z w) (x : ByteArray) (hx : x.size ≤ maxLen) :
    (Instr.lookup t (.map (some b)) (.string x) true).run Try.prog w = .ok (.tuple #[(f x).getD z, .bool (f x).isSome]) w := by
  obtain ⟨D, h1, h3⟩ := h
  obtain ⟨v, ps, hr, hv⟩ := h1.look_ok law9 ht hz (zd := .held z) (zp := []) rfl (Go.WideMaps.keyOf_string_mk Try.underlying9 hx)
  rw [hr, (h3 x).1]
  have h4 : v = (f x).getD z := by
    cases hf : f x with
    | none =>
      have := (h3 x).1
      rw [hf] at this
      rw [atKey_of_not_has this] at hv
      simp only [rawR, Option.some.injEq, Prod.mk.injEq, DataW.held.injEq] at hv
      exact hv.1
    | some u =>
      rw [(h3 x).2 u hf] at hv
      simp only [rawR, Option.some.injEq, Prod.mk.injEq, DataW.held.injEq] at hv
      exact hv.1
  rw [h4]

end Go.Proofs.Qxb6601949a.Sc
